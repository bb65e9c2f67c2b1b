/-
  Lemmas shared by several laws of this seat; no statement of their own.
-/
import Derived.Test.YtdjiekejkjgamadRows
import Derived.WalkKit
import Derived.ProofKit
import Derived.OpenShut
import Derived.Test.YtdjiekejkjgamadFltM
import Derived.Test.YtdjiekejkjgamadFltW
import Derived.Test.YtdjiekejkjgamadFltX
import Derived.Test.YtdjiekejkjgamadFltY
import Derived.WalkLawsBesides
import Derived.Laws.BitsAllLaws
import Derived.Lib.Hide
import Derived.Outline
namespace Go.Proofs.Ytdjiekejkjgamad
open Go.ChangeShapes Go.WideShapes Go.ChangeAt Go.RowKit

set_option linter.unusedVariables false

/-- The whole part of a float, as an integer. -/
def whole (s : Bool) (r : Nat) : Int := sg s (val r / pw 1074)
theorem ret_b {a b : Bool} (h : a = b) : Ending.returned (.bool a) = .returned (.bool b) := by rw [h]
theorem ret_i {k : IntKind} {a b : Int} (h : a = b) : Ending.returned (.int k a) = .returned (.int k b) := by rw [h]
theorem sign_any (s : Bool) (r : Nat) (w : World) (h : r < 9223372036854775808) : Calls Try.prog 30 #[.float .f64 (wd s r)] w fun e w' => e = .returned (.bool s) ∧ w = w' := by
  have hr := fun w => bits_run (wd s r) w
  have e : (decide (wrap64 ((wd s r : Nat) : Int) < 0)) = s := by
    unfold wd wrap64
    cases s
    · simp; omega
    · simp; omega
  have HE := Lib.hid e
  clear h e
  go_enter Try.func30, Try.ntmps30
  go_wp2_with fail
  go_ret
  exact ⟨ret_b HE.out, rfl⟩
theorem conv_in (s : Bool) (r : Nat) (k : IntKind) (h : r < 9218868437227405312) (h1 : k.min ≤ whole s r) (h2 : whole s r ≤ k.max) : floatToIntVal .f64 (wd s r) k = some (whole s r) := by
  unfold floatToIntVal
  have : (FloatKind.f64.decode (wd s r)).toInt .zero = some (whole s r) := toInt_wd s r h
  rw [this]
  simp [h1, h2]
def CI (x : Nat) (w : World) : Prop := ∃ n : Int, -2147483648 ≤ n ∧ n ≤ 2147483647 ∧ (convert 22 21 (.float .f64 x)).run Try.prog w = .ok (.int .i32 n) w.drew
theorem conv_out (x : Nat) (w : World) (h : ∀ n, (FloatKind.f64.decode x).toInt .zero = some n → ¬ (-2147483648 ≤ n ∧ n ≤ 2147483647)) : CI x w := by
  have hmin : IntKind.i32.min = -2147483648 := by decide
  have hmax : IntKind.i32.max = 2147483647 := by decide
  have key : (Conv.floatToInt .f64 x .i32).run Try.prog w = .ok (.int .i32 (IntKind.i32.wrap ((Question.floatToInt FloatKind.f64 x IntKind.i32).cut (w.tape w.drawn (Question.floatToInt FloatKind.f64 x IntKind.i32))))) w.drew := by
    unfold Conv.floatToInt
    cases ht : (FloatKind.f64.decode x).toInt .zero with
    | none => simp [Question.forced]
    | some n =>
      have := h n ht
      simp [Question.forced, hmin, hmax, this]
  refine ⟨IntKind.i32.wrap ((Question.floatToInt FloatKind.f64 x IntKind.i32).cut (w.tape w.drawn (Question.floatToInt FloatKind.f64 x IntKind.i32))), by rw [IntKind.wrap_i32]; omega, by rw [IntKind.wrap_i32]; omega, ?_⟩
  have hs := Try.underlying22
  have hd := Try.underlying21
  simp only [convert, run_underlying hs, run_underlying hd, Sem.run_bind]
  exact key
/-- The low 32 bits of a whole number. -/
theorem low_mod (a : Nat) : a % pw 1106 / pw 1074 = a / pw 1074 % 4294967296 := by
  rw [show 1106 = 1074 + 32 from rfl, pw_add, Nat.mod_mul_right_div_self]
  rfl
theorem whole_low (q r : Nat) (h : val q = val r % pw 1106) : whole false q = ((val r / pw 1074 % 4294967296 : Nat) : Int) := by
  unfold whole sg; rw [h, low_mod]; simp
theorem fin_i32 (s : Bool) (V : Nat) (T : Int) (hT : T = sg s V) : wrap32 T = if s = true then wrap32 (-(wrap32 ((V % 4294967296 : Nat) : Int))) else wrap32 ((V % 4294967296 : Nat) : Int) := by
  subst hT
  unfold wrap32 sg
  cases s
  · simp
  · simp; omega
theorem if_true' {a b c : Int} (h : a = if (true : Bool) = true then b else c) : b = a := by rw [h]; rfl
theorem if_false' {a b c : Int} (h : a = if (false : Bool) = true then b else c) : c = a := by rw [h]; rfl
theorem nearest_int (n : Int) (h1 : -4503599627370496 ≤ n) (h2 : n ≤ 4503599627370496) : ∃ s r, floatOfInt .f64 n = wd s r ∧ r < 9218868437227405312 ∧ sg s (val r) = n * (pw 1074 : Nat) := by
  have e : floatOfInt .f64 n = Ieee.double.nearest (decide (n < 0)) n.natAbs 0 := rfl
  rw [e]
  by_cases hz : n.natAbs = 0
  · have : n = 0 := by omega
    subst this
    refine ⟨false, 0, by rw [hz, near0]; rfl, by omega, ?_⟩
    unfold sg val mant; simp
  · have hl : n.natAbs.log2 < 53 := (Nat.log2_lt hz).2 (by omega)
    obtain ⟨r, g1, g2, g3⟩ := nearP (decide (n < 0)) n.natAbs 1074 hz (by omega) (by omega)
    refine ⟨decide (n < 0), r, ?_, g2, ?_⟩
    · rw [show (-1074 + ((1074 : Nat) : Int)) = 0 by omega] at g1
      rw [g1]; rfl
    · rw [g3, sg_mul]
      have : sg (decide (n < 0)) n.natAbs = n := by unfold sg; split <;> simp_all <;> omega
      rw [this]
theorem not_eq_out (n : Int) (s : Bool) (r : Nat) (h1 : -2147483648 ≤ n) (h2 : n ≤ 2147483647) (h : r < 9218868437227405312) (ho : ¬ (-2147483648 ≤ whole s r ∧ whole s r ≤ 2147483647)) : (FloatKind.f64.format.order (floatOfInt .f64 n) (wd s r) == some .eq) = false := by
  obtain ⟨t, q, e1, e2, e3⟩ := nearest_int n (by omega) (by omega)
  rw [e1]
  show (Ieee.double.order (wd t q) (wd s r) == some .eq) = false
  rw [order_wd t s q r e2 h]
  have : ¬ compare (sg t (val q)) (sg s (val r)) = .eq := by
    rw [Int.compare_eq_eq, e3]
    intro he
    apply ho
    have : whole s r = n := by
      unfold whole
      unfold sg at he ⊢
      have hp := pw_pos 1074
      generalize pw 1074 = P at *
      cases s
      · simp only [Bool.false_eq_true, if_false] at he ⊢
        have : ((val r / P : Nat) : Int) = (val r : Int) / (P : Int) := by simp
        rw [this, ← he, Int.mul_ediv_cancel _ (by omega)]
      · simp only [if_true] at he ⊢
        have h3 : (val r : Int) = (-n) * (P : Int) := by rw [Int.neg_mul]; omega
        have : ((val r / P : Nat) : Int) = (val r : Int) / (P : Int) := by simp
        rw [this, h3, Int.mul_ediv_cancel _ (by omega)]; omega
    omega
  simpa using this
def I32 (n : Int) (w : World) (e : Ending) (w' : World) : Prop := e = .returned (.int .i32 n) ∧ ∃ m, w' = w.drewN m
set_option maxHeartbeats 1000000 in
theorem toInt32_in (s : Bool) (r : Nat) (w : World) (h : r < 9218868437227405312) (h1 : -2147483648 ≤ whole s r) (h2 : whole s r ≤ 2147483647) : Calls Try.prog 15 #[.float .f64 (wd s r)] w (I32 (wrap32 (whole s r)) w) := by
  have hc := fun w => run_convert_float_int (P := Try.prog) w 22 21 .f64 .i32 (wd s r) (whole s r) (by kernel_rfl) Try.underlying21 (conv_in s r .i32 h h1 h2)
  have N := Lib.hid (fun w => nan_fin s r w h)
  have I := Lib.hid (fun w => inf_fin s r w h)
  have A := Lib.hid (fun w => abs_any s r w (by omega))
  have M := Lib.hid (fun w => Mod_any r w h)
  have G := Lib.hid (fun w => sign_any s r w (by omega))
  have Z := Lib.hid (show wrap32 (whole s r) = whole s r by unfold wrap32; omega)
  clear h
  cases t : (FloatKind.f64.format.order (floatOfInt .f64 (whole s r)) (wd s r) == some .eq)
  rotate_left
  · go_enter Try.func15, Try.ntmps15
    go_wp2_with fail
    go_ret
    exact ⟨ret_i Z.out.symm, 0, rfl⟩
  clear Z
  go_enter Try.func15, Try.ntmps15
  go_wp2_with fail
  refine (N.out _).mono ?_
  rintro e w1 ⟨rfl, rfl⟩
  go_wp2_with fail
  refine (I.out _).mono ?_
  rintro e w1 ⟨rfl, rfl⟩
  go_wp2_with fail
  refine (A.out _).mono ?_
  rintro e w1 ⟨rfl, rfl⟩
  go_wp2_with fail
  refine (M.out _).mono ?_
  rintro e w1 ⟨q, rfl, q1, q2, rfl⟩
  have u0 := whole_low q r q2
  have hcu := fun w => run_convert_float_int (P := Try.prog) w 22 55 .f64 .u32 (wd false q) (whole false q) (by kernel_rfl) Try.underlying55 (conv_in false q .u32 (by omega) (by rw [show IntKind.u32.min = 0 from by decide]; omega) (by rw [show IntKind.u32.max = 4294967295 from by decide]; omega))
  rw [wd_f, u0] at hcu
  generalize hU : ((val r / pw 1074 % 4294967296 : Nat) : Int) = U at *
  have U1 : 0 ≤ U := by omega
  have U2 : U ≤ 4294967295 := by omega
  have HU := Lib.hid hU
  clear hU q1 q2 u0
  go_wp2_with fail
  refine (G.out _).mono ?_
  rintro e w1 ⟨rfl, rfl⟩
  have FI := Lib.hid (fin_i32 s (val r / pw 1074) (whole s r) rfl)
  rw [HU.out] at FI
  cases s
  · go_wp2_with fail
    go_ret
    exact ⟨ret_i (if_false' FI.out), 0, rfl⟩
  · go_wp2_with fail
    go_ret
    exact ⟨ret_i (if_true' (c := wrap32 U) FI.out), 0, rfl⟩
set_option maxHeartbeats 1000000 in
theorem toInt32_out (s : Bool) (r : Nat) (w : World) (h : r < 9218868437227405312) (ho : ¬ (-2147483648 ≤ whole s r ∧ whole s r ≤ 2147483647)) : Calls Try.prog 15 #[.float .f64 (wd s r)] w (I32 (wrap32 (whole s r)) w) := by
  obtain ⟨n, n1, n2, hc⟩ := conv_out (wd s r) w (fun n hn => by
    have : (FloatKind.f64.decode (wd s r)).toInt .zero = some (whole s r) := toInt_wd s r h
    rw [this] at hn; cases hn; exact ho)
  have t := not_eq_out n s r n1 n2 h ho
  have N := Lib.hid (fun w => nan_fin s r w h)
  have I := Lib.hid (fun w => inf_fin s r w h)
  have A := Lib.hid (fun w => abs_any s r w (by omega))
  have M := Lib.hid (fun w => Mod_any r w h)
  have G := Lib.hid (fun w => sign_any s r w (by omega))
  clear h ho
  go_enter Try.func15, Try.ntmps15
  go_wp2_with fail
  refine (N.out _).mono ?_
  rintro e w1 ⟨rfl, rfl⟩
  go_wp2_with fail
  refine (I.out _).mono ?_
  rintro e w1 ⟨rfl, rfl⟩
  go_wp2_with fail
  refine (A.out _).mono ?_
  rintro e w1 ⟨rfl, rfl⟩
  go_wp2_with fail
  refine (M.out _).mono ?_
  rintro e w1 ⟨q, rfl, q1, q2, rfl⟩
  have u0 := whole_low q r q2
  have hcu := fun w => run_convert_float_int (P := Try.prog) w 22 55 .f64 .u32 (wd false q) (whole false q) (by kernel_rfl) Try.underlying55 (conv_in false q .u32 (by omega) (by rw [show IntKind.u32.min = 0 from by decide]; omega) (by rw [show IntKind.u32.max = 4294967295 from by decide]; omega))
  rw [wd_f, u0] at hcu
  generalize hU : ((val r / pw 1074 % 4294967296 : Nat) : Int) = U at *
  have U1 : 0 ≤ U := by omega
  have U2 : U ≤ 4294967295 := by omega
  have HU := Lib.hid hU
  clear hU q1 q2 u0
  go_wp2_with fail
  refine (G.out _).mono ?_
  rintro e w1 ⟨rfl, rfl⟩
  have FI := Lib.hid (fin_i32 s (val r / pw 1074) (whole s r) rfl)
  rw [HU.out] at FI
  cases s
  · go_wp2_with fail
    go_ret
    exact ⟨ret_i (if_false' FI.out), 1, rfl⟩
  · go_wp2_with fail
    go_ret
    exact ⟨ret_i (if_true' (c := wrap32 U) FI.out), 1, rfl⟩

end Go.Proofs.Ytdjiekejkjgamad
