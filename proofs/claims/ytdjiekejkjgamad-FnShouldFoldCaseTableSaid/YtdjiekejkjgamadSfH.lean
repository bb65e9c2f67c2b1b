/-
  Lemmas shared by several laws of this seat; no statement of their own.
-/
import Derived.Test.YtdjiekejkjgamadRows
import Derived.WalkKit
import Derived.ProofKit
import Derived.OpenShut
import Derived.Test.YtdjiekejkjgamadSlW
import Derived.Test.YtdjiekejkjgamadFltM
import Derived.Test.YtdjiekejkjgamadFltW
import Derived.Test.YtdjiekejkjgamadFltX
import Derived.Test.YtdjiekejkjgamadFltY
import Derived.Test.YtdjiekejkjgamadFltZ
import Derived.Test.YtdjiekejkjgamadFltL
import Derived.Test.YtdjiekejkjgamadSfE
import Derived.Test.YtdjiekejkjgamadSfN
import Derived.Test.YtdjiekejkjgamadSfT
import Derived.Test.YtdjiekejkjgamadSfS
import Derived.Test.YtdjiekejkjgamadSfL
import Derived.Test.YtdjiekejkjgamadSfM
import Derived.Test.YtdjiekejkjgamadSfF
import Derived.Test.YtdjiekejkjgamadSfA
import Derived.WalkLawsBesides
import Derived.Below
import Derived.Lib.Hide
import Derived.Outline
import Derived.Deep.QuietTactic
import Derived.BigQuiet
import Derived.Deep.Cut
import Derived.Deep.RegionHeld3
namespace Go.Proofs.Ytdjiekejkjgamad
open Go.ChangeShapes Go.WideShapes Go.ChangeAt Go.RowKit

set_option linter.unusedVariables false

def U32 (n : Int) (w : World) (e : Ending) (w' : World) : Prop := e = .returned (.int .u32 n) ∧ ∃ m, w' = w.drewN m
theorem toU (x : Nat) (t z : Int) (w : World) (hz : wrap32 t % 4294967296 = z) (h : Calls Try.prog 15 #[.float .f64 x] w (I32 (wrap32 t) w)) : Calls Try.prog 16 #[.float .f64 x] w (U32 z w) := by
  have K := Lib.hid h
  have HZ := Lib.hid hz
  clear h hz
  go_enter Try.func16, Try.ntmps16
  go_wp2_with fail
  refine K.out.mono ?_
  rintro e w1 ⟨rfl, m, rfl⟩
  go_wp2_with fail
  go_ret
  exact ⟨ret_i HZ.out, m, rfl⟩
theorem split64 (a : Nat) (h : a < 18446744073709551616) : ∃ s r, a = wd s r ∧ r < 9223372036854775808 := by
  by_cases hs : a < 9223372036854775808
  · exact ⟨false, a, (wd_f a).symm, hs⟩
  · exact ⟨true, a - 9223372036854775808, by unfold wd; rw [if_pos rfl]; omega, by omega⟩
theorem vd1 : val 4607182418800017408 = 1 * pw 1074 := by kernel_rfl
theorem vd2 : val 4611686018427387904 = 2 * pw 1074 := by kernel_rfl
theorem vd3 : val 4613937818241073152 = 3 * pw 1074 := by kernel_rfl
theorem vd4 : val 4616189618054758400 = 4 * pw 1074 := by kernel_rfl
theorem vd5 : val 4617315517961601024 = 5 * pw 1074 := by kernel_rfl
theorem vd6 : val 4618441417868443648 = 6 * pw 1074 := by kernel_rfl
theorem vd7 : val 4619567317775286272 = 7 * pw 1074 := by kernel_rfl
theorem vd8 : val 4620693217682128896 = 8 * pw 1074 := by kernel_rfl
theorem vd9 : val 4621256167635550208 = 9 * pw 1074 := by kernel_rfl
/-- The word of a digit. -/
def dw (i : Nat) : Nat := match i with | 1 => 4607182418800017408 | 2 => 4611686018427387904 | 3 => 4613937818241073152 | 4 => 4616189618054758400 | 5 => 4617315517961601024 | 6 => 4618441417868443648 | 7 => 4619567317775286272 | 8 => 4620693217682128896 | 9 => 4621256167635550208 | _ => 0
theorem val_dw (i : Nat) (h : i ≤ 9) : val (dw i) = i * pw 1074 := by
  obtain rfl | rfl | rfl | rfl | rfl | rfl | rfl | rfl | rfl | rfl : i = 0 ∨ i = 1 ∨ i = 2 ∨ i = 3 ∨ i = 4 ∨ i = 5 ∨ i = 6 ∨ i = 7 ∨ i = 8 ∨ i = 9 := by omega
  · rw [show dw 0 = 0 from rfl, val_zero, Nat.zero_mul]
  · exact vd1
  · exact vd2
  · exact vd3
  · exact vd4
  · exact vd5
  · exact vd6
  · exact vd7
  · exact vd8
  · exact vd9
theorem dig (r : Nat) (h : sm 4621256167635550208 r = true) : ∃ i, i ≤ 9 ∧ r = dw i := by
  unfold sm at h
  simp only [Bool.and_eq_true, decide_eq_true_eq] at h
  obtain ⟨h1, h2⟩ := h
  have e := (ig_iff r).2 h2
  have h3 : val r ≤ 9 * pw 1074 := by
    rw [← vd9]
    rcases Nat.lt_or_eq_of_le h1 with g | g
    · exact Nat.le_of_lt (val_lt _ _ g)
    · rw [g]; exact Nat.le_refl _
  have h4 : val r / pw 1074 ≤ 9 := by
    have := Nat.div_le_div_right (c := pw 1074) h3
    rwa [Nat.mul_div_cancel _ (pw_pos 1074)] at this
  exact ⟨val r / pw 1074, h4, (val_eq_iff _ _).1 (by rw [val_dw _ h4]; exact e)⟩
theorem dw_fin (i : Nat) (h : i ≤ 9) : dw i < 9218868437227405312 := by
  obtain rfl | rfl | rfl | rfl | rfl | rfl | rfl | rfl | rfl | rfl : i = 0 ∨ i = 1 ∨ i = 2 ∨ i = 3 ∨ i = 4 ∨ i = 5 ∨ i = 6 ∨ i = 7 ∨ i = 8 ∨ i = 9 := by omega
  all_goals decide
theorem dw_pos (i : Nat) (h : i ≤ 9) (h0 : dw i = 0) : i = 0 := by
  obtain rfl | rfl | rfl | rfl | rfl | rfl | rfl | rfl | rfl | rfl : i = 0 ∨ i = 1 ∨ i = 2 ∨ i = 3 ∨ i = 4 ∨ i = 5 ∨ i = 6 ∨ i = 7 ∨ i = 8 ∨ i = 9 := by omega
  all_goals first | rfl | exact absurd h0 (by decide)
theorem ge_pos (s : Bool) (r : Nat) (hr : r < 9218868437227405312) (h : (FloatKind.f64.format.order (wd s r) 0 == some .gt || FloatKind.f64.format.order (wd s r) 0 == some .eq) = true) : s = false ∨ r = 0 := by
  cases s
  · exact .inl rfl
  · right
    rcases Nat.eq_zero_or_pos r with h0 | h0
    · exact h0
    · have := neg_lt r hr h0
      rw [beq_iff_eq] at this
      rw [this] at h
      exact absurd h (by decide)
theorem whole_dw (s : Bool) (i : Nat) (hi : i ≤ 9) (h : s = false ∨ dw i = 0) : whole s (dw i) = i := by
  unfold whole
  rw [val_dw i hi, Nat.mul_div_cancel _ (pw_pos 1074)]
  rcases h with rfl | h
  · rfl
  · rw [dw_pos i hi h]; cases s <;> rfl
theorem i32_dw (s : Bool) (i : Nat) (hi : i ≤ 9) (h : s = false ∨ dw i = 0) (w : World) : Calls Try.prog 15 #[.float .f64 (wd s (dw i))] w (I32 (i : Int) w) := by
  have := toInt32_fin s (dw i) w (dw_fin i hi)
  rw [whole_dw s i hi h, show wrap32 (i : Int) = i by unfold wrap32; omega] at this
  exact this
theorem u32_dw (s : Bool) (i : Nat) (hi : i ≤ 9) (h : s = false ∨ dw i = 0) (w : World) : Calls Try.prog 16 #[.float .f64 (wd s (dw i))] w (U32 (i : Int) w) := by
  refine toU _ (i : Int) _ w (by unfold wrap32; omega) ?_
  have := i32_dw s i hi h w
  rwa [show wrap32 (i : Int) = i by unfold wrap32; omega]
theorem nlt_dw (s : Bool) (i : Nat) (hi : i ≤ 9) (h : s = false ∨ dw i = 0) : (FloatKind.f64.format.order (wd s (dw i)) 0 == some .lt) = false := by rw [ord_lt s (dw i) 0 (dw_fin i hi) (by omega) h]; simp
theorem cnt_dw (s : Bool) (i : Nat) (hi : i ≤ 9) (h : s = false ∨ dw i = 0) (w : World) : Calls Try.prog 14 #[.float .f64 (wd s (dw i))] w (Cnt (0 + 1) w) := by
  have hs := nlt_dw s i hi h
  clear h
  obtain rfl | rfl | rfl | rfl | rfl | rfl | rfl | rfl | rfl | rfl : i = 0 ∨ i = 1 ∨ i = 2 ∨ i = 3 ∨ i = 4 ∨ i = 5 ∨ i = 6 ∨ i = 7 ∨ i = 8 ∨ i = 9 := by omega
  · exact cv0 s hs w
  · exact cv1 s hs w
  · exact cv2 s hs w
  · exact cv3 s hs w
  · exact cv4 s hs w
  · exact cv5 s hs w
  · exact cv6 s hs w
  · exact cv7 s hs w
  · exact cv8 s hs w
  · exact cv9 s hs w
theorem zv0 (w : World) : Calls Try.prog 14 #[.float .f64 (floatOfInt .f64 0)] w (Cnt (0 + 1) w) := by rw [show floatOfInt .f64 0 = wd false 0 from by kernel_rfl]; exact cv0 false (by kernel_rfl) w
theorem zv1 (w : World) : Calls Try.prog 14 #[.float .f64 (floatOfInt .f64 1)] w (Cnt (0 + 1) w) := by rw [show floatOfInt .f64 1 = wd false 4607182418800017408 from by kernel_rfl]; exact cv1 false (by kernel_rfl) w
theorem zv2 (w : World) : Calls Try.prog 14 #[.float .f64 (floatOfInt .f64 2)] w (Cnt (0 + 1) w) := by rw [show floatOfInt .f64 2 = wd false 4611686018427387904 from by kernel_rfl]; exact cv2 false (by kernel_rfl) w
theorem zv3 (w : World) : Calls Try.prog 14 #[.float .f64 (floatOfInt .f64 3)] w (Cnt (0 + 1) w) := by rw [show floatOfInt .f64 3 = wd false 4613937818241073152 from by kernel_rfl]; exact cv3 false (by kernel_rfl) w
theorem zv4 (w : World) : Calls Try.prog 14 #[.float .f64 (floatOfInt .f64 4)] w (Cnt (0 + 1) w) := by rw [show floatOfInt .f64 4 = wd false 4616189618054758400 from by kernel_rfl]; exact cv4 false (by kernel_rfl) w
theorem zv5 (w : World) : Calls Try.prog 14 #[.float .f64 (floatOfInt .f64 5)] w (Cnt (0 + 1) w) := by rw [show floatOfInt .f64 5 = wd false 4617315517961601024 from by kernel_rfl]; exact cv5 false (by kernel_rfl) w
theorem zv6 (w : World) : Calls Try.prog 14 #[.float .f64 (floatOfInt .f64 6)] w (Cnt (0 + 1) w) := by rw [show floatOfInt .f64 6 = wd false 4618441417868443648 from by kernel_rfl]; exact cv6 false (by kernel_rfl) w
theorem zv7 (w : World) : Calls Try.prog 14 #[.float .f64 (floatOfInt .f64 7)] w (Cnt (0 + 1) w) := by rw [show floatOfInt .f64 7 = wd false 4619567317775286272 from by kernel_rfl]; exact cv7 false (by kernel_rfl) w
theorem zv8 (w : World) : Calls Try.prog 14 #[.float .f64 (floatOfInt .f64 8)] w (Cnt (0 + 1) w) := by rw [show floatOfInt .f64 8 = wd false 4620693217682128896 from by kernel_rfl]; exact cv8 false (by kernel_rfl) w
theorem zv9 (w : World) : Calls Try.prog 14 #[.float .f64 (floatOfInt .f64 9)] w (Cnt (0 + 1) w) := by rw [show floatOfInt .f64 9 = wd false 4621256167635550208 from by kernel_rfl]; exact cv9 false (by kernel_rfl) w
theorem zv10 (w : World) : Calls Try.prog 14 #[.float .f64 (floatOfInt .f64 10)] w (Cnt (1 + 1) w) := by rw [show floatOfInt .f64 10 = wd false 4621819117588971520 from by kernel_rfl]; exact cv10 false (by kernel_rfl) w
theorem zv12 (w : World) : Calls Try.prog 14 #[.float .f64 (floatOfInt .f64 12)] w (Cnt (1 + 1) w) := by rw [show floatOfInt .f64 12 = wd false 4622945017495814144 from by kernel_rfl]; exact cv12 false (by kernel_rfl) w
theorem zv14 (w : World) : Calls Try.prog 14 #[.float .f64 (floatOfInt .f64 14)] w (Cnt (1 + 1) w) := by rw [show floatOfInt .f64 14 = wd false 4624070917402656768 from by kernel_rfl]; exact cv14 false (by kernel_rfl) w
theorem zv16 (w : World) : Calls Try.prog 14 #[.float .f64 (floatOfInt .f64 16)] w (Cnt (1 + 1) w) := by rw [show floatOfInt .f64 16 = wd false 4625196817309499392 from by kernel_rfl]; exact cv16 false (by kernel_rfl) w
theorem zv18 (w : World) : Calls Try.prog 14 #[.float .f64 (floatOfInt .f64 18)] w (Cnt (1 + 1) w) := by rw [show floatOfInt .f64 18 = wd false 4625759767262920704 from by kernel_rfl]; exact cv18 false (by kernel_rfl) w
theorem zv20 (w : World) : Calls Try.prog 14 #[.float .f64 (floatOfInt .f64 20)] w (Cnt (1 + 1) w) := by rw [show floatOfInt .f64 20 = wd false 4626322717216342016 from by kernel_rfl]; exact cv20 false (by kernel_rfl) w
theorem zv24 (w : World) : Calls Try.prog 14 #[.float .f64 (floatOfInt .f64 24)] w (Cnt (1 + 1) w) := by rw [show floatOfInt .f64 24 = wd false 4627448617123184640 from by kernel_rfl]; exact cv24 false (by kernel_rfl) w
theorem zv28 (w : World) : Calls Try.prog 14 #[.float .f64 (floatOfInt .f64 28)] w (Cnt (1 + 1) w) := by rw [show floatOfInt .f64 28 = wd false 4628574517030027264 from by kernel_rfl]; exact cv28 false (by kernel_rfl) w
theorem zv32 (w : World) : Calls Try.prog 14 #[.float .f64 (floatOfInt .f64 32)] w (Cnt (1 + 1) w) := by rw [show floatOfInt .f64 32 = wd false 4629700416936869888 from by kernel_rfl]; exact cv32 false (by kernel_rfl) w
theorem zv36 (w : World) : Calls Try.prog 14 #[.float .f64 (floatOfInt .f64 36)] w (Cnt (1 + 1) w) := by rw [show floatOfInt .f64 36 = wd false 4630263366890291200 from by kernel_rfl]; exact cv36 false (by kernel_rfl) w
theorem zv40 (w : World) : Calls Try.prog 14 #[.float .f64 (floatOfInt .f64 40)] w (Cnt (1 + 1) w) := by rw [show floatOfInt .f64 40 = wd false 4630826316843712512 from by kernel_rfl]; exact cv40 false (by kernel_rfl) w
theorem zv48 (w : World) : Calls Try.prog 14 #[.float .f64 (floatOfInt .f64 48)] w (Cnt (1 + 1) w) := by rw [show floatOfInt .f64 48 = wd false 4631952216750555136 from by kernel_rfl]; exact cv48 false (by kernel_rfl) w
theorem zv56 (w : World) : Calls Try.prog 14 #[.float .f64 (floatOfInt .f64 56)] w (Cnt (1 + 1) w) := by rw [show floatOfInt .f64 56 = wd false 4633078116657397760 from by kernel_rfl]; exact cv56 false (by kernel_rfl) w
theorem zv64 (w : World) : Calls Try.prog 14 #[.float .f64 (floatOfInt .f64 64)] w (Cnt (1 + 1) w) := by rw [show floatOfInt .f64 64 = wd false 4634204016564240384 from by kernel_rfl]; exact cv64 false (by kernel_rfl) w
theorem zv72 (w : World) : Calls Try.prog 14 #[.float .f64 (floatOfInt .f64 72)] w (Cnt (1 + 1) w) := by rw [show floatOfInt .f64 72 = wd false 4634766966517661696 from by kernel_rfl]; exact cv72 false (by kernel_rfl) w
theorem zv80 (w : World) : Calls Try.prog 14 #[.float .f64 (floatOfInt .f64 80)] w (Cnt (1 + 1) w) := by rw [show floatOfInt .f64 80 = wd false 4635329916471083008 from by kernel_rfl]; exact cv80 false (by kernel_rfl) w
theorem zv96 (w : World) : Calls Try.prog 14 #[.float .f64 (floatOfInt .f64 96)] w (Cnt (1 + 1) w) := by rw [show floatOfInt .f64 96 = wd false 4636455816377925632 from by kernel_rfl]; exact cv96 false (by kernel_rfl) w
theorem zv112 (w : World) : Calls Try.prog 14 #[.float .f64 (floatOfInt .f64 112)] w (Cnt (2 + 1) w) := by rw [show floatOfInt .f64 112 = wd false 4637581716284768256 from by kernel_rfl]; exact cv112 false (by kernel_rfl) w
theorem zv128 (w : World) : Calls Try.prog 14 #[.float .f64 (floatOfInt .f64 128)] w (Cnt (2 + 1) w) := by rw [show floatOfInt .f64 128 = wd false 4638707616191610880 from by kernel_rfl]; exact cv128 false (by kernel_rfl) w
theorem zv144 (w : World) : Calls Try.prog 14 #[.float .f64 (floatOfInt .f64 144)] w (Cnt (2 + 1) w) := by rw [show floatOfInt .f64 144 = wd false 4639270566145032192 from by kernel_rfl]; exact cv144 false (by kernel_rfl) w
theorem zv160 (w : World) : Calls Try.prog 14 #[.float .f64 (floatOfInt .f64 160)] w (Cnt (2 + 1) w) := by rw [show floatOfInt .f64 160 = wd false 4639833516098453504 from by kernel_rfl]; exact cv160 false (by kernel_rfl) w
theorem zv192 (w : World) : Calls Try.prog 14 #[.float .f64 (floatOfInt .f64 192)] w (Cnt (2 + 1) w) := by rw [show floatOfInt .f64 192 = wd false 4640959416005296128 from by kernel_rfl]; exact cv192 false (by kernel_rfl) w
theorem zv224 (w : World) : Calls Try.prog 14 #[.float .f64 (floatOfInt .f64 224)] w (Cnt (2 + 1) w) := by rw [show floatOfInt .f64 224 = wd false 4642085315912138752 from by kernel_rfl]; exact cv224 false (by kernel_rfl) w
theorem zv256 (w : World) : Calls Try.prog 14 #[.float .f64 (floatOfInt .f64 256)] w (Cnt (2 + 1) w) := by rw [show floatOfInt .f64 256 = wd false 4643211215818981376 from by kernel_rfl]; exact cv256 false (by kernel_rfl) w
theorem zv288 (w : World) : Calls Try.prog 14 #[.float .f64 (floatOfInt .f64 288)] w (Cnt (2 + 1) w) := by rw [show floatOfInt .f64 288 = wd false 4643774165772402688 from by kernel_rfl]; exact cv288 false (by kernel_rfl) w
theorem zv320 (w : World) : Calls Try.prog 14 #[.float .f64 (floatOfInt .f64 320)] w (Cnt (2 + 1) w) := by rw [show floatOfInt .f64 320 = wd false 4644337115725824000 from by kernel_rfl]; exact cv320 false (by kernel_rfl) w
theorem zv384 (w : World) : Calls Try.prog 14 #[.float .f64 (floatOfInt .f64 384)] w (Cnt (2 + 1) w) := by rw [show floatOfInt .f64 384 = wd false 4645463015632666624 from by kernel_rfl]; exact cv384 false (by kernel_rfl) w
theorem zv448 (w : World) : Calls Try.prog 14 #[.float .f64 (floatOfInt .f64 448)] w (Cnt (2 + 1) w) := by rw [show floatOfInt .f64 448 = wd false 4646588915539509248 from by kernel_rfl]; exact cv448 false (by kernel_rfl) w
theorem zv512 (w : World) : Calls Try.prog 14 #[.float .f64 (floatOfInt .f64 512)] w (Cnt (2 + 1) w) := by rw [show floatOfInt .f64 512 = wd false 4647714815446351872 from by kernel_rfl]; exact cv512 false (by kernel_rfl) w
theorem zv576 (w : World) : Calls Try.prog 14 #[.float .f64 (floatOfInt .f64 576)] w (Cnt (2 + 1) w) := by rw [show floatOfInt .f64 576 = wd false 4648277765399773184 from by kernel_rfl]; exact cv576 false (by kernel_rfl) w
theorem zv640 (w : World) : Calls Try.prog 14 #[.float .f64 (floatOfInt .f64 640)] w (Cnt (2 + 1) w) := by rw [show floatOfInt .f64 640 = wd false 4648840715353194496 from by kernel_rfl]; exact cv640 false (by kernel_rfl) w
theorem zv768 (w : World) : Calls Try.prog 14 #[.float .f64 (floatOfInt .f64 768)] w (Cnt (2 + 1) w) := by rw [show floatOfInt .f64 768 = wd false 4649966615260037120 from by kernel_rfl]; exact cv768 false (by kernel_rfl) w
theorem zv896 (w : World) : Calls Try.prog 14 #[.float .f64 (floatOfInt .f64 896)] w (Cnt (2 + 1) w) := by rw [show floatOfInt .f64 896 = wd false 4651092515166879744 from by kernel_rfl]; exact cv896 false (by kernel_rfl) w
theorem zv1024 (w : World) : Calls Try.prog 14 #[.float .f64 (floatOfInt .f64 1024)] w (Cnt (3 + 1) w) := by rw [show floatOfInt .f64 1024 = wd false 4652218415073722368 from by kernel_rfl]; exact cv1024 false (by kernel_rfl) w
theorem zv1152 (w : World) : Calls Try.prog 14 #[.float .f64 (floatOfInt .f64 1152)] w (Cnt (3 + 1) w) := by rw [show floatOfInt .f64 1152 = wd false 4652781365027143680 from by kernel_rfl]; exact cv1152 false (by kernel_rfl) w
theorem zv1280 (w : World) : Calls Try.prog 14 #[.float .f64 (floatOfInt .f64 1280)] w (Cnt (3 + 1) w) := by rw [show floatOfInt .f64 1280 = wd false 4653344314980564992 from by kernel_rfl]; exact cv1280 false (by kernel_rfl) w
theorem zv1536 (w : World) : Calls Try.prog 14 #[.float .f64 (floatOfInt .f64 1536)] w (Cnt (3 + 1) w) := by rw [show floatOfInt .f64 1536 = wd false 4654470214887407616 from by kernel_rfl]; exact cv1536 false (by kernel_rfl) w
theorem zv1792 (w : World) : Calls Try.prog 14 #[.float .f64 (floatOfInt .f64 1792)] w (Cnt (3 + 1) w) := by rw [show floatOfInt .f64 1792 = wd false 4655596114794250240 from by kernel_rfl]; exact cv1792 false (by kernel_rfl) w
theorem zv2048 (w : World) : Calls Try.prog 14 #[.float .f64 (floatOfInt .f64 2048)] w (Cnt (3 + 1) w) := by rw [show floatOfInt .f64 2048 = wd false 4656722014701092864 from by kernel_rfl]; exact cv2048 false (by kernel_rfl) w
theorem zv2304 (w : World) : Calls Try.prog 14 #[.float .f64 (floatOfInt .f64 2304)] w (Cnt (3 + 1) w) := by rw [show floatOfInt .f64 2304 = wd false 4657284964654514176 from by kernel_rfl]; exact cv2304 false (by kernel_rfl) w
theorem zv2560 (w : World) : Calls Try.prog 14 #[.float .f64 (floatOfInt .f64 2560)] w (Cnt (3 + 1) w) := by rw [show floatOfInt .f64 2560 = wd false 4657847914607935488 from by kernel_rfl]; exact cv2560 false (by kernel_rfl) w
theorem zv3072 (w : World) : Calls Try.prog 14 #[.float .f64 (floatOfInt .f64 3072)] w (Cnt (3 + 1) w) := by rw [show floatOfInt .f64 3072 = wd false 4658973814514778112 from by kernel_rfl]; exact cv3072 false (by kernel_rfl) w
theorem zv3584 (w : World) : Calls Try.prog 14 #[.float .f64 (floatOfInt .f64 3584)] w (Cnt (3 + 1) w) := by rw [show floatOfInt .f64 3584 = wd false 4660099714421620736 from by kernel_rfl]; exact cv3584 false (by kernel_rfl) w
theorem zv4096 (w : World) : Calls Try.prog 14 #[.float .f64 (floatOfInt .f64 4096)] w (Cnt (3 + 1) w) := by rw [show floatOfInt .f64 4096 = wd false 4661225614328463360 from by kernel_rfl]; exact cv4096 false (by kernel_rfl) w
theorem zv4608 (w : World) : Calls Try.prog 14 #[.float .f64 (floatOfInt .f64 4608)] w (Cnt (3 + 1) w) := by rw [show floatOfInt .f64 4608 = wd false 4661788564281884672 from by kernel_rfl]; exact cv4608 false (by kernel_rfl) w
def Few (z : Int) : Prop := ∃ n : Int, 0 ≤ n ∧ n ≤ 3 ∧ ∀ w, Calls Try.prog 14 #[.float .f64 (floatOfInt .f64 z)] w (Cnt (n + 1) w)
theorem fv0 : Few 0 := ⟨0, by omega, by omega, zv0⟩
theorem fv1 : Few 1 := ⟨0, by omega, by omega, zv1⟩
theorem fv2 : Few 2 := ⟨0, by omega, by omega, zv2⟩
theorem fv3 : Few 3 := ⟨0, by omega, by omega, zv3⟩
theorem fv4 : Few 4 := ⟨0, by omega, by omega, zv4⟩
theorem fv5 : Few 5 := ⟨0, by omega, by omega, zv5⟩
theorem fv6 : Few 6 := ⟨0, by omega, by omega, zv6⟩
theorem fv7 : Few 7 := ⟨0, by omega, by omega, zv7⟩
theorem fv8 : Few 8 := ⟨0, by omega, by omega, zv8⟩
theorem fv9 : Few 9 := ⟨0, by omega, by omega, zv9⟩
theorem fv10 : Few 10 := ⟨1, by omega, by omega, zv10⟩
theorem fv12 : Few 12 := ⟨1, by omega, by omega, zv12⟩
theorem fv14 : Few 14 := ⟨1, by omega, by omega, zv14⟩
theorem fv16 : Few 16 := ⟨1, by omega, by omega, zv16⟩
theorem fv18 : Few 18 := ⟨1, by omega, by omega, zv18⟩
theorem fv20 : Few 20 := ⟨1, by omega, by omega, zv20⟩
theorem fv24 : Few 24 := ⟨1, by omega, by omega, zv24⟩
theorem fv28 : Few 28 := ⟨1, by omega, by omega, zv28⟩
theorem fv32 : Few 32 := ⟨1, by omega, by omega, zv32⟩
theorem fv36 : Few 36 := ⟨1, by omega, by omega, zv36⟩
theorem fv40 : Few 40 := ⟨1, by omega, by omega, zv40⟩
theorem fv48 : Few 48 := ⟨1, by omega, by omega, zv48⟩
theorem fv56 : Few 56 := ⟨1, by omega, by omega, zv56⟩
theorem fv64 : Few 64 := ⟨1, by omega, by omega, zv64⟩
theorem fv72 : Few 72 := ⟨1, by omega, by omega, zv72⟩
theorem fv80 : Few 80 := ⟨1, by omega, by omega, zv80⟩
theorem fv96 : Few 96 := ⟨1, by omega, by omega, zv96⟩
theorem fv112 : Few 112 := ⟨2, by omega, by omega, zv112⟩
theorem fv128 : Few 128 := ⟨2, by omega, by omega, zv128⟩
theorem fv144 : Few 144 := ⟨2, by omega, by omega, zv144⟩
theorem fv160 : Few 160 := ⟨2, by omega, by omega, zv160⟩
theorem fv192 : Few 192 := ⟨2, by omega, by omega, zv192⟩
theorem fv224 : Few 224 := ⟨2, by omega, by omega, zv224⟩
theorem fv256 : Few 256 := ⟨2, by omega, by omega, zv256⟩
theorem fv288 : Few 288 := ⟨2, by omega, by omega, zv288⟩
theorem fv320 : Few 320 := ⟨2, by omega, by omega, zv320⟩
theorem fv384 : Few 384 := ⟨2, by omega, by omega, zv384⟩
theorem fv448 : Few 448 := ⟨2, by omega, by omega, zv448⟩
theorem fv512 : Few 512 := ⟨2, by omega, by omega, zv512⟩
theorem fv576 : Few 576 := ⟨2, by omega, by omega, zv576⟩
theorem fv640 : Few 640 := ⟨2, by omega, by omega, zv640⟩
theorem fv768 : Few 768 := ⟨2, by omega, by omega, zv768⟩
theorem fv896 : Few 896 := ⟨2, by omega, by omega, zv896⟩
theorem fv1024 : Few 1024 := ⟨3, by omega, by omega, zv1024⟩
theorem fv1152 : Few 1152 := ⟨3, by omega, by omega, zv1152⟩
theorem fv1280 : Few 1280 := ⟨3, by omega, by omega, zv1280⟩
theorem fv1536 : Few 1536 := ⟨3, by omega, by omega, zv1536⟩
theorem fv1792 : Few 1792 := ⟨3, by omega, by omega, zv1792⟩
theorem fv2048 : Few 2048 := ⟨3, by omega, by omega, zv2048⟩
theorem fv2304 : Few 2304 := ⟨3, by omega, by omega, zv2304⟩
theorem fv2560 : Few 2560 := ⟨3, by omega, by omega, zv2560⟩
theorem fv3072 : Few 3072 := ⟨3, by omega, by omega, zv3072⟩
theorem fv3584 : Few 3584 := ⟨3, by omega, by omega, zv3584⟩
theorem fv4096 : Few 4096 := ⟨3, by omega, by omega, zv4096⟩
theorem fv4608 : Few 4608 := ⟨3, by omega, by omega, zv4608⟩
theorem few_shl (i j : Nat) (hi : i ≤ 9) (hj : j ≤ 9) : Few ((i * 2 ^ j : Nat) : Int) := by
  obtain rfl | rfl | rfl | rfl | rfl | rfl | rfl | rfl | rfl | rfl : i = 0 ∨ i = 1 ∨ i = 2 ∨ i = 3 ∨ i = 4 ∨ i = 5 ∨ i = 6 ∨ i = 7 ∨ i = 8 ∨ i = 9 := by omega
  · obtain rfl | rfl | rfl | rfl | rfl | rfl | rfl | rfl | rfl | rfl : j = 0 ∨ j = 1 ∨ j = 2 ∨ j = 3 ∨ j = 4 ∨ j = 5 ∨ j = 6 ∨ j = 7 ∨ j = 8 ∨ j = 9 := by omega
    · exact fv0
    · exact fv0
    · exact fv0
    · exact fv0
    · exact fv0
    · exact fv0
    · exact fv0
    · exact fv0
    · exact fv0
    · exact fv0
  · obtain rfl | rfl | rfl | rfl | rfl | rfl | rfl | rfl | rfl | rfl : j = 0 ∨ j = 1 ∨ j = 2 ∨ j = 3 ∨ j = 4 ∨ j = 5 ∨ j = 6 ∨ j = 7 ∨ j = 8 ∨ j = 9 := by omega
    · exact fv1
    · exact fv2
    · exact fv4
    · exact fv8
    · exact fv16
    · exact fv32
    · exact fv64
    · exact fv128
    · exact fv256
    · exact fv512
  · obtain rfl | rfl | rfl | rfl | rfl | rfl | rfl | rfl | rfl | rfl : j = 0 ∨ j = 1 ∨ j = 2 ∨ j = 3 ∨ j = 4 ∨ j = 5 ∨ j = 6 ∨ j = 7 ∨ j = 8 ∨ j = 9 := by omega
    · exact fv2
    · exact fv4
    · exact fv8
    · exact fv16
    · exact fv32
    · exact fv64
    · exact fv128
    · exact fv256
    · exact fv512
    · exact fv1024
  · obtain rfl | rfl | rfl | rfl | rfl | rfl | rfl | rfl | rfl | rfl : j = 0 ∨ j = 1 ∨ j = 2 ∨ j = 3 ∨ j = 4 ∨ j = 5 ∨ j = 6 ∨ j = 7 ∨ j = 8 ∨ j = 9 := by omega
    · exact fv3
    · exact fv6
    · exact fv12
    · exact fv24
    · exact fv48
    · exact fv96
    · exact fv192
    · exact fv384
    · exact fv768
    · exact fv1536
  · obtain rfl | rfl | rfl | rfl | rfl | rfl | rfl | rfl | rfl | rfl : j = 0 ∨ j = 1 ∨ j = 2 ∨ j = 3 ∨ j = 4 ∨ j = 5 ∨ j = 6 ∨ j = 7 ∨ j = 8 ∨ j = 9 := by omega
    · exact fv4
    · exact fv8
    · exact fv16
    · exact fv32
    · exact fv64
    · exact fv128
    · exact fv256
    · exact fv512
    · exact fv1024
    · exact fv2048
  · obtain rfl | rfl | rfl | rfl | rfl | rfl | rfl | rfl | rfl | rfl : j = 0 ∨ j = 1 ∨ j = 2 ∨ j = 3 ∨ j = 4 ∨ j = 5 ∨ j = 6 ∨ j = 7 ∨ j = 8 ∨ j = 9 := by omega
    · exact fv5
    · exact fv10
    · exact fv20
    · exact fv40
    · exact fv80
    · exact fv160
    · exact fv320
    · exact fv640
    · exact fv1280
    · exact fv2560
  · obtain rfl | rfl | rfl | rfl | rfl | rfl | rfl | rfl | rfl | rfl : j = 0 ∨ j = 1 ∨ j = 2 ∨ j = 3 ∨ j = 4 ∨ j = 5 ∨ j = 6 ∨ j = 7 ∨ j = 8 ∨ j = 9 := by omega
    · exact fv6
    · exact fv12
    · exact fv24
    · exact fv48
    · exact fv96
    · exact fv192
    · exact fv384
    · exact fv768
    · exact fv1536
    · exact fv3072
  · obtain rfl | rfl | rfl | rfl | rfl | rfl | rfl | rfl | rfl | rfl : j = 0 ∨ j = 1 ∨ j = 2 ∨ j = 3 ∨ j = 4 ∨ j = 5 ∨ j = 6 ∨ j = 7 ∨ j = 8 ∨ j = 9 := by omega
    · exact fv7
    · exact fv14
    · exact fv28
    · exact fv56
    · exact fv112
    · exact fv224
    · exact fv448
    · exact fv896
    · exact fv1792
    · exact fv3584
  · obtain rfl | rfl | rfl | rfl | rfl | rfl | rfl | rfl | rfl | rfl : j = 0 ∨ j = 1 ∨ j = 2 ∨ j = 3 ∨ j = 4 ∨ j = 5 ∨ j = 6 ∨ j = 7 ∨ j = 8 ∨ j = 9 := by omega
    · exact fv8
    · exact fv16
    · exact fv32
    · exact fv64
    · exact fv128
    · exact fv256
    · exact fv512
    · exact fv1024
    · exact fv2048
    · exact fv4096
  · obtain rfl | rfl | rfl | rfl | rfl | rfl | rfl | rfl | rfl | rfl : j = 0 ∨ j = 1 ∨ j = 2 ∨ j = 3 ∨ j = 4 ∨ j = 5 ∨ j = 6 ∨ j = 7 ∨ j = 8 ∨ j = 9 := by omega
    · exact fv9
    · exact fv18
    · exact fv36
    · exact fv72
    · exact fv144
    · exact fv288
    · exact fv576
    · exact fv1152
    · exact fv2304
    · exact fv4608
theorem few_shr (i j : Nat) (hi : i ≤ 9) : Few ((i / 2 ^ j : Nat) : Int) := by
  have h : i / 2 ^ j ≤ 9 := Nat.le_trans (Nat.div_le_self _ _) hi
  generalize i / 2 ^ j = k at h
  obtain rfl | rfl | rfl | rfl | rfl | rfl | rfl | rfl | rfl | rfl : k = 0 ∨ k = 1 ∨ k = 2 ∨ k = 3 ∨ k = 4 ∨ k = 5 ∨ k = 6 ∨ k = 7 ∨ k = 8 ∨ k = 9 := by omega
  · exact fv0
  · exact fv1
  · exact fv2
  · exact fv3
  · exact fv4
  · exact fv5
  · exact fv6
  · exact fv7
  · exact fv8
  · exact fv9
set_option maxRecDepth 100000 in
theorem mod23 (x y : Nat) (w : World) (a a' b b' : Bool) (k1 : Calls Try.prog 9 #[.float .f64 x, .float .f64 4621256167635550208] w (Bo a w)) (k2 : Calls Try.prog 9 #[.float .f64 y, .float .f64 4621256167635550208] w (Bo b w)) (t1 : (FloatKind.f64.format.order x 0 == some .gt || FloatKind.f64.format.order x 0 == some .eq) = a') (t2 : (FloatKind.f64.format.order y 0 == some .gt || FloatKind.f64.format.order y 0 == some .eq) = b') : Calls Try.prog 5 #[.int .u8 23, .bool false, .float .f64 x, .bool false, .float .f64 y] w (Res (a && a' && b && b') (a && a' && b && b') w) := by
  have K1 := Lib.hid k1
  have K2 := Lib.hid k2
  clear k1 k2
  cases a
  · go_enter Try.func5, Try.ntmps5
    go_wp2_with fail
    refine K1.out.mono ?_
    rintro e w1 ⟨rfl, rfl⟩
    go_wp2_with fail
    go_ret2
    exact ⟨rfl, rfl⟩
  cases a'
  · go_enter Try.func5, Try.ntmps5
    go_wp2_with fail
    refine K1.out.mono ?_
    rintro e w1 ⟨rfl, rfl⟩
    go_wp2_with fail
    go_ret2
    exact ⟨rfl, rfl⟩
  cases b
  · go_enter Try.func5, Try.ntmps5
    go_wp2_with fail
    refine K1.out.mono ?_
    rintro e w1 ⟨rfl, rfl⟩
    go_wp2_with fail
    refine K2.out.mono ?_
    rintro e w1 ⟨rfl, rfl⟩
    go_wp2_with fail
    go_ret2
    exact ⟨rfl, rfl⟩
  cases b'
  all_goals
    go_enter Try.func5, Try.ntmps5
    go_wp2_with fail
    refine K1.out.mono ?_
    rintro e w1 ⟨rfl, rfl⟩
    go_wp2_with fail
    refine K2.out.mono ?_
    rintro e w1 ⟨rfl, rfl⟩
    go_wp2_with fail
    go_ret2
    exact ⟨rfl, rfl⟩
set_option maxRecDepth 100000 in
theorem mod25 (x y : Nat) (w : World) (a a' b b' : Bool) (k1 : Calls Try.prog 9 #[.float .f64 x, .float .f64 4621256167635550208] w (Bo a w)) (k2 : Calls Try.prog 9 #[.float .f64 y, .float .f64 4621256167635550208] w (Bo b w)) (t1 : (FloatKind.f64.format.order x 0 == some .gt || FloatKind.f64.format.order x 0 == some .eq) = a') (t2 : (FloatKind.f64.format.order y 0 == some .gt || FloatKind.f64.format.order y 0 == some .eq) = b') : Calls Try.prog 5 #[.int .u8 25, .bool false, .float .f64 x, .bool false, .float .f64 y] w (Res (a && a' && b && b') (a && a' && b && b') w) := by
  have K1 := Lib.hid k1
  have K2 := Lib.hid k2
  clear k1 k2
  cases a
  · go_enter Try.func5, Try.ntmps5
    go_wp2_with fail
    refine K1.out.mono ?_
    rintro e w1 ⟨rfl, rfl⟩
    go_wp2_with fail
    go_ret2
    exact ⟨rfl, rfl⟩
  cases a'
  · go_enter Try.func5, Try.ntmps5
    go_wp2_with fail
    refine K1.out.mono ?_
    rintro e w1 ⟨rfl, rfl⟩
    go_wp2_with fail
    go_ret2
    exact ⟨rfl, rfl⟩
  cases b
  · go_enter Try.func5, Try.ntmps5
    go_wp2_with fail
    refine K1.out.mono ?_
    rintro e w1 ⟨rfl, rfl⟩
    go_wp2_with fail
    refine K2.out.mono ?_
    rintro e w1 ⟨rfl, rfl⟩
    go_wp2_with fail
    go_ret2
    exact ⟨rfl, rfl⟩
  cases b'
  all_goals
    go_enter Try.func5, Try.ntmps5
    go_wp2_with fail
    refine K1.out.mono ?_
    rintro e w1 ⟨rfl, rfl⟩
    go_wp2_with fail
    refine K2.out.mono ?_
    rintro e w1 ⟨rfl, rfl⟩
    go_wp2_with fail
    go_ret2
    exact ⟨rfl, rfl⟩

end Go.Proofs.Ytdjiekejkjgamad
