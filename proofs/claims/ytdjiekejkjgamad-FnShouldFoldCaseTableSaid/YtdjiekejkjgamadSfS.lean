/-
  Lemmas shared by several laws of this seat; no statement of their own.
-/
import Derived.Test.YtdjiekejkjgamadRows
import Derived.WalkKit
import Derived.ProofKit
import Derived.OpenShut
import Derived.Test.YtdjiekejkjgamadSlW
import Derived.Test.YtdjiekejkjgamadFltM
import Derived.Test.YtdjiekejkjgamadFltW
import Derived.Test.YtdjiekejkjgamadFltX
import Derived.Test.YtdjiekejkjgamadFltY
import Derived.Test.YtdjiekejkjgamadFltZ
import Derived.Test.YtdjiekejkjgamadFltL
import Derived.Test.YtdjiekejkjgamadSfE
import Derived.Test.YtdjiekejkjgamadSfT
import Derived.WalkLawsBesides
import Derived.Laws.BitsAllLaws
import Derived.Lib.Hide
import Derived.Outline
namespace Go.Proofs.Ytdjiekejkjgamad
open Go.ChangeShapes Go.WideShapes Go.ChangeAt Go.RowKit

set_option linter.unusedVariables false

theorem neg_wd (r : Nat) (h : r < 9223372036854775808) : Op.negFloat .f64 (wd true r) = r := by
  show (9223372036854775808 + r) ^^^ 2 ^ 63 = r
  have e : 9223372036854775808 + r = 2 ^ 63 * 1 ||| r := Nat.two_pow_add_eq_or_of_lt (i := 63) (by omega) 1
  rw [e]
  apply Nat.eq_of_testBit_eq
  intro i
  rw [Nat.testBit_xor, Nat.testBit_or, Nat.mul_one, Nat.testBit_two_pow]
  by_cases hi : 63 = i
  · subst hi
    rw [Nat.testBit_lt_two_pow (by omega)]; simp
  · simp [hi]
theorem run_neg_float (P : Program) (w : World) (k : FloatKind) (b : Nat) : (Op.unary .neg (.float k b)).run P w = .ok (.float k (Op.negFloat k b)) w := rfl
theorem val_zero : val 0 = 0 := by unfold val mant; simp
theorem val_eq_iff (a b : Nat) : val a = val b ↔ a = b := by
  constructor
  · intro h
    rcases Nat.lt_trichotomy a b with h1 | h1 | h1
    · have := val_lt a b h1; omega
    · exact h1
    · have := val_lt b a h1; omega
  · intro h; rw [h]
theorem ord_lt (s : Bool) (r L : Nat) (hr : r < 9218868437227405312) (hL : L < 9218868437227405312) (h : s = false ∨ r = 0) : (FloatKind.f64.format.order (wd s r) L == some .lt) = decide (r < L) := by
  show (Ieee.double.order (wd s r) (wd false L) == some .lt) = _
  rw [order_wd s false r L hr hL]
  apply beq_of_iff
  simp only [beq_iff_eq, Option.some.injEq, Int.compare_eq_lt, decide_eq_true_eq]
  rcases h with rfl | rfl
  · unfold sg; simp only [Bool.false_eq_true, if_false]
    rw [← val_lt_iff]; omega
  · rw [← val_lt_iff, val_zero]; unfold sg; simp
theorem ord_eq (s : Bool) (r L : Nat) (hr : r < 9218868437227405312) (hL : L < 9218868437227405312) (h : s = false ∨ r = 0) : (FloatKind.f64.format.order (wd s r) L == some .eq) = decide (r = L) := by
  show (Ieee.double.order (wd s r) (wd false L) == some .eq) = _
  rw [order_wd s false r L hr hL]
  apply beq_of_iff
  simp only [beq_iff_eq, Option.some.injEq, Int.compare_eq_eq, decide_eq_true_eq]
  rcases h with rfl | rfl
  · unfold sg; simp only [Bool.false_eq_true, if_false]
    rw [← val_eq_iff]; omega
  · rw [← val_eq_iff, val_zero]; unfold sg; simp; omega
theorem neg_lt (r : Nat) (hr : r < 9218868437227405312) (h : 0 < r) : (FloatKind.f64.format.order (wd true r) 0 == some .lt) = true := by
  show (Ieee.double.order (wd true r) (wd false 0) == some .lt) = _
  rw [order_wd true false r 0 hr (by omega)]
  have := (val_lt_iff 0 r).2 h
  rw [val_zero] at this
  simp only [beq_iff_eq, Option.some.injEq, Int.compare_eq_lt]
  rw [val_zero]; unfold sg; simp; omega
def Bo (b : Bool) (w : World) (e : Ending) (w' : World) : Prop := e = .returned (.bool b) ∧ w = w'
theorem small_pos (s : Bool) (r L : Nat) (w : World) (hr : r < 9218868437227405312) (hL : L < 4751297606875873280) (h : s = false ∨ r = 0) : Calls Try.prog 9 #[.float .f64 (wd s r), .float .f64 L] w (Bo (decide (r ≤ L) && ig r) w) := by
  have t0 : (FloatKind.f64.format.order (wd s r) 0 == some .lt) = false := by rw [ord_lt s r 0 hr (by omega) h]; simp
  have t1 := ord_lt s r L hr (by omega) h
  have t2 := ord_eq s r L hr (by omega) h
  by_cases hle : r ≤ L
  · have hb := eq_back s r (by omega)
    have hv := small_val r (by omega)
    have hc := fun w => run_convert_float_int (P := Try.prog) w 22 2 .f64 .i64 (wd s r) (whole s r) (by kernel_rfl) Try.underlying2 (conv_in s r .i64 hr (by rw [show IntKind.i64.min = -9223372036854775808 by decide]; unfold whole sg; generalize val r / pw 1074 = V at hv ⊢; split <;> omega) (by rw [show IntKind.i64.max = 9223372036854775807 by decide]; unfold whole sg; generalize val r / pw 1074 = V at hv ⊢; split <;> omega))
    have e : (decide (r ≤ L) && ig r) = ig r := by simp [hle]
    rw [e]
    generalize ig r = g at hb ⊢
    clear hv e hr hL h
    by_cases hl : r < L
    · rw [decide_eq_true hl] at t1
      rw [decide_eq_false (by omega)] at t2
      clear hle hl
      go_enter Try.func9, Try.ntmps9
      go_wp2_with fail
      go_ret
      exact ⟨rfl, rfl⟩
    · rw [decide_eq_false hl] at t1
      rw [decide_eq_true (by omega)] at t2
      clear hle hl
      go_enter Try.func9, Try.ntmps9
      go_wp2_with fail
      go_ret
      exact ⟨rfl, rfl⟩
  · have e : (decide (r ≤ L) && ig r) = false := by simp [hle]
    rw [e]
    rw [decide_eq_false (by omega)] at t1
    rw [decide_eq_false (by omega)] at t2
    clear e hr hL h hle
    go_enter Try.func9, Try.ntmps9
    go_wp2_with fail
    go_ret
    exact ⟨rfl, rfl⟩
theorem small_neg (r L : Nat) (w : World) (hr : r < 9218868437227405312) (hL : L < 4751297606875873280) (h : 0 < r) : Calls Try.prog 9 #[.float .f64 (wd true r), .float .f64 L] w (Bo (decide (r ≤ L) && ig r) w) := by
  have t0 := neg_lt r hr h
  have hn := fun w => run_neg_float Try.prog w .f64 (wd true r)
  simp only [neg_wd r (by omega)] at hn
  have t1 : (FloatKind.f64.format.order r L == some .lt) = decide (r < L) := ord_lt false r L hr (by omega) (.inl rfl)
  have t2 : (FloatKind.f64.format.order r L == some .eq) = decide (r = L) := ord_eq false r L hr (by omega) (.inl rfl)
  by_cases hle : r ≤ L
  · have hb := eq_back true r (by omega)
    have hv := small_val r (by omega)
    have hc := fun w => run_convert_float_int (P := Try.prog) w 22 2 .f64 .i64 (wd true r) (whole true r) (by kernel_rfl) Try.underlying2 (conv_in true r .i64 hr (by rw [show IntKind.i64.min = -9223372036854775808 by decide]; unfold whole sg; generalize val r / pw 1074 = V at hv ⊢; split <;> omega) (by rw [show IntKind.i64.max = 9223372036854775807 by decide]; unfold whole sg; generalize val r / pw 1074 = V at hv ⊢; split <;> omega))
    have e : (decide (r ≤ L) && ig r) = ig r := by simp [hle]
    rw [e]
    generalize ig r = g at hb ⊢
    clear hv e hr hL h
    by_cases hl : r < L
    · rw [decide_eq_true hl] at t1
      rw [decide_eq_false (by omega)] at t2
      clear hle hl
      go_enter Try.func9, Try.ntmps9
      go_wp2_with fail
      go_ret
      exact ⟨rfl, rfl⟩
    · rw [decide_eq_false hl] at t1
      rw [decide_eq_true (by omega)] at t2
      clear hle hl
      go_enter Try.func9, Try.ntmps9
      go_wp2_with fail
      go_ret
      exact ⟨rfl, rfl⟩
  · have e : (decide (r ≤ L) && ig r) = false := by simp [hle]
    rw [e]
    rw [decide_eq_false (by omega)] at t1
    rw [decide_eq_false (by omega)] at t2
    clear e hr hL h hle
    go_enter Try.func9, Try.ntmps9
    go_wp2_with fail
    go_ret
    exact ⟨rfl, rfl⟩
theorem bad_ord (s : Bool) (r y : Nat) (o : Ordering) (h1 : 9218868437227405312 < r) (h2 : r < 9223372036854775808) : (FloatKind.f64.format.order (wd s r) y == some o) = false := by
  show ((Ieee.double.read (wd s r)).order (Ieee.double.read y) == some o) = false
  rw [read_bad s r (by omega) h2, if_neg (by omega)]
  cases Ieee.double.read y <;> rfl
theorem inf_ord (L : Nat) (o : Ordering) (ho : o ≠ .gt) (hL : L < 9218868437227405312) : (FloatKind.f64.format.order 9218868437227405312 L == some o) = false := by
  show ((Ieee.double.read (wd false 9218868437227405312)).order (Ieee.double.read (wd false L)) == some o) = false
  rw [read_bad false _ (by omega) (by omega), if_pos rfl, read_wd false L hL]
  cases o
  · rfl
  · rfl
  · exact absurd rfl ho
theorem small_bad (s : Bool) (r L : Nat) (w : World) (h1 : 9218868437227405312 ≤ r) (h2 : r < 9223372036854775808) (hL : L < 4751297606875873280) : Calls Try.prog 9 #[.float .f64 (wd s r), .float .f64 L] w (Bo (decide (r ≤ L) && ig r) w) := by
  have e : (decide (r ≤ L) && ig r) = false := by rw [decide_eq_false (by omega)]; rfl
  rw [e]
  by_cases hi : r = 9218868437227405312
  · subst hi
    have t1 := inf_ord L .lt (by decide) (by omega)
    have t2 := inf_ord L .eq (by decide) (by omega)
    clear e h1 h2 hL
    cases s
    · have t0 := inf_ord 0 .lt (by decide) (by omega)
      rw [show wd false 9218868437227405312 = 9218868437227405312 from rfl]
      go_enter Try.func9, Try.ntmps9
      go_wp2_with fail
      go_ret
      exact ⟨rfl, rfl⟩
    · have hn := fun w => run_neg_float Try.prog w .f64 (wd true 9218868437227405312)
      simp only [neg_wd 9218868437227405312 (by omega)] at hn
      have t0 : (FloatKind.f64.format.order (wd true 9218868437227405312) 0 == some .lt) = true := by kernel_rfl
      generalize wd true 9218868437227405312 = X at *
      go_enter Try.func9, Try.ntmps9
      go_wp2_with fail
      go_ret
      exact ⟨rfl, rfl⟩
  · have t0 := bad_ord s r 0 .lt (by omega) h2
    have t1 := bad_ord s r L .lt (by omega) h2
    have t2 := bad_ord s r L .eq (by omega) h2
    clear e h1 h2 hL hi
    go_enter Try.func9, Try.ntmps9
    go_wp2_with fail
    go_ret
    exact ⟨rfl, rfl⟩
/-- What zzSmallInt_b2 answers. -/
def sm (L r : Nat) : Bool := decide (r ≤ L) && ig r
theorem small_any (s : Bool) (r L : Nat) (w : World) (h : r < 9223372036854775808) (hL : L < 4751297606875873280) : Calls Try.prog 9 #[.float .f64 (wd s r), .float .f64 L] w (Bo (sm L r) w) := by
  by_cases h1 : r < 9218868437227405312
  · cases s
    · exact small_pos false r L w h1 hL (.inl rfl)
    · by_cases h0 : r = 0
      · exact small_pos true r L w h1 hL (.inr h0)
      · exact small_neg r L w h1 hL (by omega)
  · exact small_bad s r L w (by omega) h hL

end Go.Proofs.Ytdjiekejkjgamad
