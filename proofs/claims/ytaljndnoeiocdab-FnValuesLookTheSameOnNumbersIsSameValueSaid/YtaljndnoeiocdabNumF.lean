/-
  Lemmas shared by several laws of this seat; no statement of their own.
-/
import Derived.Test.YtaljndnoeiocdabRows
import Derived.WalkKit
import Derived.ProofKit
import Derived.OpenShut
import Derived.WalkLawsBesides
import Derived.Laws.FloatArith
import Derived.Lib.Hide
namespace Go.Proofs.Ytaljndnoeiocdab
open Go.ChangeShapes Go.WideShapes Go.ChangeAt Go.RowKit

set_option linter.unusedVariables false

def top63 : Nat := 9223372036854775808
def eqF (a b : Nat) : Bool := FloatKind.f64.format.order a b == some .eq
def zeroF (a : Nat) : Bool := FloatKind.f64.format.order a 0 == some .eq
theorem signed_zero (s : Bool) (u : Nat) : Ieee.signed s 0 u = 0 := by cases s <;> simp [Ieee.signed]
theorem read_zero (a : Nat) (h : a = 0 ∨ a = top63) : ∃ s, FloatKind.f64.format.read a = .number s 0 Ieee.double.leastPlace := by
  rcases h with rfl | rfl
  · exact ⟨false, by decide +kernel⟩
  · exact ⟨true, by decide +kernel⟩
theorem signed_eq_zero (t : Bool) (n u : Nat) : Ieee.signed t n u = 0 ↔ n = 0 := by
  unfold Ieee.signed
  cases t <;> simp
theorem zeroF_iff (b : Nat) : zeroF b = true ↔ ∃ s j, FloatKind.f64.format.read b = .number s 0 j := by
  obtain ⟨s0, h0⟩ := read_zero 0 (.inl rfl)
  unfold zeroF Ieee.Format.order
  rw [h0]
  cases hb : FloatKind.f64.format.read b with
  | nan s t => simp [Ieee.Datum.order]
  | infinity s => cases s <;> simp [Ieee.Datum.order]
  | number s n j =>
    simp only [Ieee.Datum.order, signed_zero, beq_iff_eq, Option.some.injEq]
    rw [Int.compare_eq_eq, signed_eq_zero]
    constructor
    · rintro rfl; exact ⟨s, j, rfl⟩
    · rintro ⟨s', j', h⟩; injection h
theorem eqF_zero (a b : Nat) (h : a = 0 ∨ a = top63) : eqF a b = zeroF b := by
  obtain ⟨s0, h0⟩ := read_zero a h
  rw [Bool.eq_iff_iff, zeroF_iff]
  unfold eqF Ieee.Format.order
  rw [h0]
  cases hb : FloatKind.f64.format.read b with
  | nan s t => simp [Ieee.Datum.order]
  | infinity s => cases s <;> simp [Ieee.Datum.order]
  | number s n j =>
    simp only [Ieee.Datum.order, signed_zero, beq_iff_eq, Option.some.injEq]
    rw [Int.compare_eq_eq]
    constructor
    · intro e
      have := (signed_eq_zero s n _).1 e.symm
      subst this
      exact ⟨s, j, rfl⟩
    · rintro ⟨s', j', h⟩
      injection h with _ h2
      subst h2
      exact (signed_zero _ _).symm
theorem zero_bits (b : Nat) (hb : b < 18446744073709551616) (h : zeroF b = true) : b = 0 ∨ b = top63 := by
  obtain ⟨s, j, hr⟩ := (zeroF_iff b).1 h
  unfold Ieee.Format.read at hr
  have e1 : FloatKind.f64.format.signWeight = 9223372036854775808 := by decide +kernel
  have e2 : FloatKind.f64.format.binade = 4503599627370496 := by decide +kernel
  rw [e1, e2] at hr
  simp only at hr
  split at hr
  · injection hr with _ h2
    unfold top63
    omega
  · split at hr
    · injection hr with _ h2
      omega
    · split at hr <;> cases hr
theorem datum_comm (d e : Ieee.Datum) : d.order e = some .eq → e.order d = some .eq := by
  cases d with
  | nan s t => simp [Ieee.Datum.order]
  | infinity s =>
    cases e with
    | nan s t => simp [Ieee.Datum.order]
    | infinity t => cases s <;> cases t <;> simp [Ieee.Datum.order]
    | number t n j => cases s <;> simp [Ieee.Datum.order]
  | number s m i =>
    cases e with
    | nan s t => simp [Ieee.Datum.order]
    | infinity t => cases t <;> simp [Ieee.Datum.order]
    | number t n j =>
      simp only [Ieee.Datum.order, Option.some.injEq, Int.compare_eq_eq]
      intro h
      rw [Int.min_comm j i]
      exact h.symm
theorem eqF_comm (a b : Nat) : eqF a b = eqF b a := by
  rw [Bool.eq_iff_iff]
  unfold eqF Ieee.Format.order
  simp only [beq_iff_eq]
  exact ⟨datum_comm _ _, datum_comm _ _⟩
def sgn (b : Nat) : Bool := decide (wrap64 (b : Int) < 0)
def R (a b : Nat) : Bool := eqF a b && !(zeroF a && zeroF b && (sgn a != sgn b))
theorem R_comm (a b : Nat) : R a b = R b a := by
  unfold R
  rw [eqF_comm a b, Bool.and_comm (zeroF a) (zeroF b)]
  cases sgn a <;> cases sgn b <;> rfl

end Go.Proofs.Ytaljndnoeiocdab
