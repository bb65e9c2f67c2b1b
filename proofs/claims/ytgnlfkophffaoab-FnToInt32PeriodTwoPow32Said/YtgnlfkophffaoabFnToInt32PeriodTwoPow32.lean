/-
  For every float64 the law FnToInt32PeriodTwoPow32 returns true and leaves its argument as it was; no condition.
  The frame of this text was written by the kit's program proof-skeleton.mjs for this statement; the walk and its lemmas are the prover's.
-/
import Derived.Test.YtgnlfkophffaoabRows
import Derived.WalkKit
import Derived.ProofKit
import Derived.OpenShut
import Derived.Test.YtgnlfkophffaoabFltM
import Derived.Test.YtgnlfkophffaoabFltW
import Derived.Test.YtgnlfkophffaoabFltX
import Derived.Test.YtgnlfkophffaoabFltY
import Derived.Test.YtgnlfkophffaoabFltZ
import Derived.Test.YtgnlfkophffaoabFltL
import Derived.Test.YtgnlfkophffaoabFltP
import Derived.Outline
import Derived.Lib.Hide
import Derived.ShutString
import Derived.ChangeOld
import Derived.Below
import Derived.WalkLawsBesides
import Derived.Deep.Slices
import Derived.Laws.Cover2
namespace Go.Proofs.Ytgnlfkophffaoab.fnToInt32PeriodTwoPow32
open Go.ChangeShapes Go.WideShapes Go.ChangeAt Go.RowKit
open Go.ChangeMaps (open_string shut_string)
open Go.Deep (open_slice1)
set_option linter.unusedVariables false

theorem own : ownKnob Try.prog.godebug = none := by kernel_rfl
theorem laidOut : laidOutB Try.prog = true := by kernel_rfl

theorem split64 (a : Nat) (h : a < 18446744073709551616) : ∃ s r, a = wd s r ∧ r < 9223372036854775808 := by
  by_cases hs : a < 9223372036854775808
  · exact ⟨false, a, (wd_f a).symm, hs⟩
  · exact ⟨true, a - 9223372036854775808, by unfold wd; rw [if_pos rfl]; omega, by omega⟩
theorem below_drewN {B : Nat} {w w' : World} (h : Below B w w') (q : Nat) : Below B w (w'.drewN q) := ⟨h.1, h.2, h.3, h.4, h.5⟩
def geB (x y : Nat) : Bool := FloatKind.f64.format.order x y == some .gt || FloatKind.f64.format.order x y == some .eq
def leB (x y : Nat) : Bool := FloatKind.f64.format.order x y == some .lt || FloatKind.f64.format.order x y == some .eq
theorem wdP : (4841369599423283200 : Nat) = wd false 4841369599423283200 := rfl
theorem wdN : (14064741636278059008 : Nat) = wd true 4841369599423283200 := rfl
theorem within (s : Bool) (r : Nat) (hr : r < 9223372036854775808) (h1 : geB (wd s r) 14064741636278059008 = true) (h2 : leB (wd s r) 4841369599423283200 = true) : r ≤ 4841369599423283200 := by
  rcases Nat.lt_or_ge r 9218868437227405312 with hf | hb
  · rw [wdP] at h2
    rw [wdN] at h1
    unfold geB at h1
    unfold leB at h2
    rw [show FloatKind.f64.format = Ieee.double from rfl, order_wd _ _ _ _ hf (by omega)] at h1 h2
    rcases Nat.lt_or_ge 4841369599423283200 r with h | h
    · exfalso
      have hv := val_lt _ _ h
      cases s
      · have : compare (sg false (val r)) (sg false (val 4841369599423283200)) = .gt := by rw [Int.compare_eq_gt]; unfold sg; simp; omega
        rw [this] at h2; revert h2; decide
      · have : compare (sg true (val r)) (sg true (val 4841369599423283200)) = .lt := by rw [Int.compare_eq_lt]; unfold sg; simp; omega
        rw [this] at h1; revert h1; decide
    · exact h
  · exfalso
    unfold geB Ieee.Format.order at h1
    unfold leB Ieee.Format.order at h2
    rw [show FloatKind.f64.format = Ieee.double from rfl, read_bad s r hb hr] at h1 h2
    have rP : Ieee.double.read 4841369599423283200 = .number false (mant 4841369599423283200) (-1074 + (expo 4841369599423283200 : Int)) := read_pos _ (by omega)
    have rN : Ieee.double.read 14064741636278059008 = .number true (mant 4841369599423283200) (-1074 + (expo 4841369599423283200 : Int)) := by rw [wdN]; exact read_wd true _ (by omega)
    rw [rP] at h2
    rw [rN] at h1
    split at h1
    · rename_i e
      rw [if_pos e] at h2
      cases s
      · simp [Ieee.Datum.order] at h2
      · simp [Ieee.Datum.order] at h1
    · simp [Ieee.Datum.order] at h1
theorem whole_within (s : Bool) (r : Nat) (h : r ≤ 4841369599423283200) : -4503599627370496 ≤ whole s r ∧ whole s r ≤ 4503599627370496 := by
  have hv := val_le _ _ h
  have hp : val 4841369599423283200 = 4503599627370496 * pw 1074 := by
    rw [show (4841369599423283200 : Nat) = 1075 * 4503599627370496 from rfl, val_pw 1075 (by omega), show 1075 + 51 = 52 + 1074 from rfl, pw_add]
    exact congrArg (· * pw 1074) (show pw 52 = 4503599627370496 from rfl)
  rw [hp] at hv
  have hd : val r / pw 1074 ≤ 4503599627370496 := by
    have := Nat.div_le_div_right (c := pw 1074) hv
    rw [Nat.mul_div_cancel _ (pw_pos _)] at this
    exact this
  unfold whole sg
  generalize val r / pw 1074 = D at hd ⊢
  cases s <;> simp <;> omega
theorem exact_eq (s : Bool) (r : Nat) (T : Int) (hf : r < 9218868437227405312) (h1 : -4503599627370496 ≤ T) (h2 : T ≤ 4503599627370496) (h : (FloatKind.f64.format.order (floatOfInt .f64 T) (wd s r) != some .eq) = false) : sg s (val r) = T * (pw 1074 : Nat) := by
  obtain ⟨t, q, e1, e2, e3⟩ := nearest_int T h1 h2
  rw [e1, show FloatKind.f64.format = Ieee.double from rfl, order_wd t s q r e2 hf] at h
  have : compare (sg t (val q)) (sg s (val r)) = .eq := by simpa using h
  rw [Int.compare_eq_eq] at this
  rw [← this, e3]
theorem read_32 : Ieee.double.read 4751297606875873280 = .number false 4503599627370496 (-1074 + ((1054 : Nat) : Int)) := by
  rw [read_pos _ (by omega)]
  obtain ⟨a, b⟩ := val_norm 1055 0 (by omega) (by omega)
  rw [show 1055 * 4503599627370496 + 0 = 4751297606875873280 from rfl] at a b
  rw [a, b]
theorem moved (s : Bool) (r : Nat) (T : Int) (hr : r ≤ 4841369599423283200) (hT : sg s (val r) = T * (pw 1074 : Nat)) (h1 : -4503599627370496 ≤ T) (h2 : T ≤ 4503599627370496) :
    (∃ x, floatBits .add .f64 (wd s r) 4751297606875873280 = some x ∧ ∀ w, Calls Try.prog 4 #[.float .f64 x] w (I32 (wrap32 T) w)) ∧
    (∃ x, floatBits .sub .f64 (wd s r) 4751297606875873280 = some x ∧ ∀ w, Calls Try.prog 4 #[.float .f64 x] w (I32 (wrap32 T) w)) := by
  have he : expo r ≤ 1074 := by unfold expo; split <;> omega
  constructor
  · obtain ⟨s', r', g1, g2, g3⟩ := add_whole s false r T (by omega) he hT h1 h2
    refine ⟨wd s' r', ?_, fun w => ?_⟩
    · show Ieee.double.add _ _ = _
      unfold Ieee.Format.add
      rw [read_32]; exact g1
    · have := toInt32_fin s' r' w g2
      rw [g3, show wrap32 (T + sg false 4294967296) = wrap32 T by unfold wrap32 sg; simp; omega] at this
      exact this
  · obtain ⟨s', r', g1, g2, g3⟩ := add_whole s true r T (by omega) he hT h1 h2
    refine ⟨wd s' r', ?_, fun w => ?_⟩
    · show Ieee.double.sub _ _ = _
      unfold Ieee.Format.sub
      rw [read_32]; exact g1
    · have := toInt32_fin s' r' w g2
      rw [g3, show wrap32 (T + sg true 4294967296) = wrap32 T by unfold wrap32 sg; simp; omega] at this
      exact this

theorem walk (a0 : Nat) (w : World) (w0 : (Lit.float .f64 a0).wf = true) :
    Calls Try.prog 3 #[.float .f64 a0] w fun e w' => e = .returned (.bool true) ∧ Below w.heap.size w w' := by
  have hw : a0 < 18446744073709551616 := by simpa [Lit.wf] using w0
  obtain ⟨s, r, rfl, hr⟩ := split64 a0 hw
  have WI := Lib.hid (within s r hr)
  clear hw w0
  cases t1 : geB (wd s r) 14064741636278059008
  · unfold geB at t1
    clear WI hr
    go_enter Try.func3, Try.ntmps3
    go_wp2_with fail
    go_ret
    exact ⟨rfl, Below.refl _ _⟩
  cases t2 : leB (wd s r) 4841369599423283200
  · unfold geB at t1
    unfold leB at t2
    clear WI hr
    go_enter Try.func3, Try.ntmps3
    go_wp2_with fail
    go_ret
    exact ⟨rfl, Below.refl _ _⟩
  have hle := WI.out t1 t2
  obtain ⟨b1, b2⟩ := whole_within s r hle
  have hc := fun w => run_convert_float_int (P := Try.prog) w 22 2 .f64 .i64 (wd s r) (whole s r) (by kernel_rfl) Try.underlying2 (conv_in s r .i64 (by omega) (by rw [show IntKind.i64.min = -9223372036854775808 from by decide]; omega) (by rw [show IntKind.i64.max = 9223372036854775807 from by decide]; omega))
  unfold geB at t1
  unfold leB at t2
  cases t3 : (FloatKind.f64.format.order (floatOfInt .f64 (whole s r)) (wd s r) != some .eq)
  rotate_left
  · clear WI hr hle b1 b2
    go_enter Try.func3, Try.ntmps3
    go_wp2_with fail
    go_ret
    exact ⟨rfl, Below.refl _ _⟩
  have hT := exact_eq s r (whole s r) (by omega) b1 b2 t3
  obtain ⟨⟨x, x1, x2⟩, ⟨y, y1, y2⟩⟩ := moved s r (whole s r) hle hT b1 b2
  have K := Lib.hid (fun w => toInt32_fin s r w (by omega))
  have X := Lib.hid x2
  have Y := Lib.hid y2
  have ha := fun w => run_float_arith (P := Try.prog) w .add 22 .f64 (wd s r) 4751297606875873280 x x1
  have hs := fun w => run_float_arith (P := Try.prog) w .sub 22 .f64 (wd s r) 4751297606875873280 y y1
  clear WI hr hle b1 b2 hT x1 x2 y1 y2
  go_enter Try.func3, Try.ntmps3
  go_wp2_with fail
  refine (K.out _).mono ?_
  rintro e w1 ⟨rfl, m, rfl⟩
  go_wp2_with fail
  refine (X.out _).mono ?_
  rintro e w1 ⟨rfl, m2, rfl⟩
  go_wp2_with fail
  refine (Y.out _).mono ?_
  rintro e w1 ⟨rfl, m3, rfl⟩
  go_wp2_with fail
  go_ret
  refine ⟨ret_b (by simp), ?_⟩
  repeat (first | exact Below.refl _ _ | refine below_drewN ?_ _)

/-! ### THE ROW's STEP: WRITTEN OUT: LEAVE IT -/
set_option maxRecDepth 100000 in
theorem lifted (os : Os) (started : os.Started) (H : Type) (enc : TypeId × Value → H) :
    ReturnsInHanded {} Try.checked os 3 .any (Rows.fnToInt32PeriodTwoPow32Spec.pre6 enc Try.prog Try.f3 Rows.fnToInt32PeriodTwoPow32Row.domain false) (Rows.fnToInt32PeriodTwoPow32Spec.post enc Try.prog Try.f3 false true false false) := by
  refine returnsInHanded_of_change (C := Try.checked) own started (by kernel_rfl) Try.func3
    (ChangeSpec.witness6 (enc := enc) (C := Try.checked) false ⟨#[], #[.float .f64 0], []⟩ 8 (by kernel_rfl) (by kernel_rfl) (by kernel_rfl) (by kernel_rfl)) ?_
  intro W base args ds gs before hval0 hW hcnd _
  have hval : ∀ (j : Nat) t v, Try.f3.params[j]? = some t → args[j]? = some v → Value.okWide Try.prog W .any base t v := hval0
  have hW' := hW
  obtain ⟨p, q, hA0, hV, rfl, hfz, hnd⟩ := hW
  have hA : DataW.TrodAll enc Try.prog W 0 (fun _ => true) true Try.f3.params.toList args.toList ds p := hA0
  rw [Try.params3] at hA hval
  obtain ⟨v0, vs0, d0, ds0, p0, q0, hargs, rfl, rfl, h0, r0⟩ := trodAll_cons hA
  obtain ⟨rfl, rfl, rfl⟩ := trodAll_nil r0
  obtain rfl : args = #[v0] := by cases args; simp_all
  obtain ⟨rfl, rfl⟩ := trodVars_none hV
  obtain ⟨a0, rfl, rfl, rfl, w0⟩ := open_float Try.underlying22 (hval 0 22 v0 rfl rfl) h0
  clear hA0 hval0
  refine (walk a0 W w0).mono fun e W' ⟨he, bel⟩ => ?_
  subst he
  exact ⟨_, rfl, _, _, _, [], _, [], hW', trodAll_mk1 (shut_bool Try.underlying4 _), (trodAll_cons_mk (shut_float Try.underlying22 w0) trodAll_mk0), rfl, bel.frame _, fun h => by cases h⟩

theorem over : Rows.fnToInt32PeriodTwoPow32Row.holds Try.pinned (OpenSpec.ofChange Rows.fnToInt32PeriodTwoPow32Spec) :=
  OpenClaim.holds_of_wide 3 Try.f3 rfl rfl rfl rfl rfl rfl rfl ⟨rfl, rfl, rfl, rfl, rfl⟩ rfl rfl rfl rfl rfl (by kernel_rfl) Try.func3 (by kernel_rfl)
    (of_decide_eq_true (by kernel_rfl)) (by unfold Func.isWrapper; first | (rw [if_pos (by decide +kernel)]; kernel_rfl) | (rw [if_neg (by decide +kernel)]; exact ⟨rfl, rfl⟩))
    (fun os started H enc _ => lifted os started H enc)

/-- THE STATEMENT -/
theorem proved : Rows.FnToInt32PeriodTwoPow32Said := over
#print axioms proved
end Go.Proofs.Ytgnlfkophffaoab.fnToInt32PeriodTwoPow32
