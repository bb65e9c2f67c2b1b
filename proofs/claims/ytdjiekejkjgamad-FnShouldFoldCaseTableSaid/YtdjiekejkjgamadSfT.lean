/-
  Lemmas shared by several laws of this seat; no statement of their own.
-/
import Derived.Test.YtdjiekejkjgamadRows
import Derived.WalkKit
import Derived.ProofKit
import Derived.OpenShut
import Derived.Test.YtdjiekejkjgamadSlW
import Derived.Test.YtdjiekejkjgamadFltM
import Derived.Test.YtdjiekejkjgamadFltW
import Derived.Test.YtdjiekejkjgamadFltX
import Derived.Test.YtdjiekejkjgamadFltY
import Derived.Test.YtdjiekejkjgamadFltZ
import Derived.Test.YtdjiekejkjgamadFltL
import Derived.Test.YtdjiekejkjgamadSfE
import Derived.WalkLawsBesides
import Derived.Laws.BitsAllLaws
import Derived.Laws.Externs
import Derived.Lib.Hide
import Derived.Outline
namespace Go.Proofs.Ytdjiekejkjgamad
open Go.ChangeShapes Go.WideShapes Go.ChangeAt Go.RowKit

set_option linter.unusedVariables false

/-- The float is an integer. -/
def ig (r : Nat) : Bool := decide (val r % pw 1074 = 0)
theorem small_val (r : Nat) (h : r < 4751297606875873280) : val r / pw 1074 < 4294967296 := by
  have h1 := val_lt r _ h
  rw [val_y, show pw 1106 = pw 1074 * pw 32 from pw_add 1074 32] at h1
  have : pw 32 = 4294967296 := by decide
  rw [this] at h1
  exact Nat.div_lt_of_lt_mul h1
theorem sg_eq (s : Bool) (a b : Nat) : sg s a = sg s b ↔ a = b := by unfold sg; split <;> omega
theorem ig_iff (r : Nat) : val r = val r / pw 1074 * pw 1074 ↔ ig r = true := by
  unfold ig
  have := Nat.div_add_mod (val r) (pw 1074)
  rw [Nat.mul_comm] at this
  simp; omega
theorem beq_of_iff {a b : Bool} (h : a = true ↔ b = true) : a = b := by cases a <;> cases b <;> simp_all
theorem eq_back (s : Bool) (r : Nat) (h : r < 4751297606875873280) : (FloatKind.f64.format.order (floatOfInt .f64 (whole s r)) (wd s r) == some .eq) = ig r := by
  have hv := small_val r h
  obtain ⟨t, q, e1, e2, e3⟩ := nearest_int (whole s r) (by unfold whole sg; generalize val r / pw 1074 = V at hv ⊢; split <;> omega) (by unfold whole sg; generalize val r / pw 1074 = V at hv ⊢; split <;> omega)
  rw [e1]
  show (Ieee.double.order (wd t q) (wd s r) == some .eq) = _
  rw [order_wd t s q r e2 (by omega), e3]
  apply beq_of_iff
  rw [← ig_iff]
  have : whole s r * ((pw 1074 : Nat) : Int) = sg s (val r / pw 1074 * pw 1074) := by unfold whole; rw [sg_mul]
  rw [this]
  simp only [beq_iff_eq, Option.some.injEq, Int.compare_eq_eq]
  rw [sg_eq]
  exact eq_comm
theorem trunc_word (s : Bool) (r : Nat) (h : r < 4751297606875873280) : ∃ q, Ieee.double.nearest s (val r / pw 1074) 0 = wd s q ∧ q < 9218868437227405312 ∧ val q = val r / pw 1074 * pw 1074 := by
  have hv := small_val r h
  by_cases hz : val r / pw 1074 = 0
  · exact ⟨0, by rw [hz, near0], by omega, by rw [hz]; unfold val mant; simp⟩
  · have hl : (val r / pw 1074).log2 < 53 := (Nat.log2_lt hz).2 (by omega)
    obtain ⟨q, g1, g2, g3⟩ := nearP s (val r / pw 1074) 1074 hz (by omega) (by omega)
    refine ⟨q, ?_, g2, g3⟩
    rw [show (-1074 + ((1074 : Nat) : Int)) = 0 by omega] at g1
    exact g1
theorem int_word (s : Bool) (r : Nat) (h : r < 9218868437227405312) : FloatKind.f64.encode ((FloatKind.f64.decode (wd s r)).integral .zero) = Ieee.double.nearest s (val r / pw 1074) 0 := by
  have h1 := toInt_wd s r h
  have h2 : FloatKind.f64.decode (wd s r) = .number s (mant r) (-1074 + (expo r : Int)) := read_wd s r h
  rw [read_wd s r h] at h1
  rw [h2]
  unfold Ieee.Datum.toInt at h1
  unfold Ieee.Datum.integral at h1
  show Ieee.double.write (.number s (Ieee.Toward.zero.cut s (mant r <<< (-1074 + (expo r : Int)).toNat) (-(-1074 + (expo r : Int))).toNat) 0) = _
  simp only [Option.some.injEq] at h1
  rw [signed_sg] at h1
  simp only [Nat.pow_zero, Nat.mul_one] at h1
  rw [sg_eq] at h1
  rw [h1]
  rfl
/-- The shape of math.archTrunc: by the datum; a NaN may draw. -/
theorem tr_shape (P : Program) (nm : String) : ∃ (F : Nat → Bool → Nat → Sem Value) (G : Nat → Ieee.Datum → Sem Value), (∀ x, Extern.MathFloor.toIntegral nm .zero #[.float .f64 x] = match FloatKind.f64.decode x with | .nan s t => F x s t | d => G x d) ∧ (∀ x s t w, ∃ y n, (F x s t).run P w = .ok (.float .f64 y) (w.drewN n)) ∧ (∀ x d w, (G x d).run P w = .ok (.float .f64 (FloatKind.f64.encode (d.integral .zero))) w) := by
  refine ⟨_, _, fun x => rfl, fun x s t w => ?_, fun x d w => rfl⟩
  by_cases hq : FloatKind.f64.format.quiet t = t
  · exact ⟨x, 0, by rw [if_pos hq]; rfl⟩
  · exact ⟨_, 1, by rw [if_neg hq]; rfl⟩
def Tr (s : Bool) (r : Nat) (w : World) (e : Ending) (w' : World) : Prop := ∃ y b n, e = .returned (.float .f64 y) ∧ w' = w.drewN n ∧ (FloatKind.f64.format.order (wd s r) y == some .eq) = b ∧ (r < 4751297606875873280 → b = ig r)
theorem trunc_fin (s : Bool) (r : Nat) (w : World) (h : r < 9218868437227405312) : Calls Try.prog 11 #[.float .f64 (wd s r)] w (Tr s r w) := by
  have h2 : FloatKind.f64.decode (wd s r) = .number s (mant r) (-1074 + (expo r : Int)) := read_wd s r h
  obtain ⟨F, G, k1, k2, k3⟩ := tr_shape Try.prog "math.archTrunc"
  refine (trunc_by (wd s r) (Ieee.double.nearest s (val r / pw 1074) 0) w w ?_).mono ?_
  · rw [← int_word s r h, k1, h2]
    exact k3 _ _ _
  · rintro e w' ⟨rfl, rfl⟩
    refine ⟨_, _, 0, rfl, rfl, rfl, fun hs => ?_⟩
    obtain ⟨q, e1, e2, e3⟩ := trunc_word s r hs
    rw [e1]
    show (Ieee.double.order (wd s r) (wd s q) == some .eq) = _
    rw [order_wd s s r q h e2, e3]
    apply beq_of_iff
    rw [← ig_iff]
    simp only [beq_iff_eq, Option.some.injEq, Int.compare_eq_eq]
    rw [sg_eq]
theorem trunc_bad (s : Bool) (r : Nat) (w : World) (h1 : 9218868437227405312 ≤ r) (h2 : r < 9223372036854775808) : Calls Try.prog 11 #[.float .f64 (wd s r)] w (Tr s r w) := by
  have hb : FloatKind.f64.decode (wd s r) = if r = 9218868437227405312 then .infinity s else .nan s (r - 9218868437227405312) := read_bad s r h1 h2
  obtain ⟨F, G, k1, k2, k3⟩ := tr_shape Try.prog "math.archTrunc"
  have fin : ∀ y n, (Extern.MathFloor.toIntegral "math.archTrunc" .zero #[.float .f64 (wd s r)]).run Try.prog w = .ok (.float .f64 y) (w.drewN n) → Calls Try.prog 11 #[.float .f64 (wd s r)] w (Tr s r w) := fun y n hrun =>
    (trunc_by (wd s r) y w _ hrun).mono fun e w' he => ⟨y, _, n, he.1, he.2.symm, rfl, fun h => absurd h (by omega)⟩
  by_cases hi : r = 9218868437227405312
  · rw [if_pos hi] at hb
    exact fin _ 0 (by rw [k1, hb]; exact k3 _ _ _)
  · rw [if_neg hi] at hb
    obtain ⟨y, n, hy⟩ := k2 (wd s r) s (r - 9218868437227405312) w
    exact fin y n (by rw [k1, hb]; exact hy)
theorem trunc_any (s : Bool) (r : Nat) (w : World) (h : r < 9223372036854775808) : Calls Try.prog 11 #[.float .f64 (wd s r)] w (Tr s r w) := by
  by_cases h1 : r < 9218868437227405312
  · exact trunc_fin s r w h1
  · exact trunc_bad s r w (by omega) h

end Go.Proofs.Ytdjiekejkjgamad
