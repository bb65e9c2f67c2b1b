/-
  What the template's parts fold to, in plain words on lists; no program.
-/
import Derived.Test.YtlmjnlijoodbiaaDoorRows
import Derived.WalkKit
import Derived.ProofKit
import Derived.OpenShut
import Derived.KernelRfl
namespace Go.Proofs.YtlmjnlijoodbiaaDoor
open Go.ChangeShapes Go.WideShapes Go.ChangeAt Go.RowKit

set_option linter.unusedVariables false

/-- Behind k parts: the finished segments, the parts that stay, the segment at hand. -/
def Fs (isS : Nat → Bool) (V T : Nat → List Int) (head : List Int) : Nat → List (List Int) × List Nat × List Int
  | 0 => ([], [], head)
  | k + 1 => if isS k then ((Fs isS V T head k).1, (Fs isS V T head k).2.1, (Fs isS V T head k).2.2 ++ V k ++ T k) else ((Fs isS V T head k).1 ++ [(Fs isS V T head k).2.2], (Fs isS V T head k).2.1 ++ [k], T k)
theorem Fs.str {isS : Nat → Bool} {V T : Nat → List Int} {head : List Int} {k : Nat} (h : isS k = true) : Fs isS V T head (k + 1) = ((Fs isS V T head k).1, (Fs isS V T head k).2.1, (Fs isS V T head k).2.2 ++ V k ++ T k) := by
  show (if isS k then _ else _) = _; rw [if_pos h]
theorem Fs.id {isS : Nat → Bool} {V T : Nat → List Int} {head : List Int} {k : Nat} (h : isS k = false) : Fs isS V T head (k + 1) = ((Fs isS V T head k).1 ++ [(Fs isS V T head k).2.2], (Fs isS V T head k).2.1 ++ [k], T k) := by
  show (if isS k then _ else _) = _; rw [if_neg (by rw [h]; decide)]
theorem Fs.len (isS : Nat → Bool) (V T : Nat → List Int) (head : List Int) : ∀ k, (Fs isS V T head k).1.length = (Fs isS V T head k).2.1.length ∧ (Fs isS V T head k).2.1.length ≤ k := by
  intro k
  induction k with
  | zero => exact ⟨rfl, Nat.le_refl _⟩
  | succ k ih =>
    cases h : isS k with
    | true => rw [Fs.str h]; exact ⟨ih.1, by show (Fs isS V T head k).2.1.length ≤ _; omega⟩
    | false => rw [Fs.id h]; simp only [List.length_append, List.length_singleton]; omega
theorem Fs.refs (isS : Nat → Bool) (V T : Nat → List Int) (head : List Int) : ∀ k, ∀ r ∈ (Fs isS V T head k).2.1, r < k ∧ isS r = false := by
  intro k
  induction k with
  | zero => intro r hr; cases hr
  | succ k ih =>
    cases h : isS k with
    | true => rw [Fs.str h]; intro r hr; have := ih r hr; exact ⟨by omega, this.2⟩
    | false =>
      rw [Fs.id h]
      intro r hr
      rcases List.mem_append.1 hr with h1 | h1
      · have := ih r h1; exact ⟨by omega, this.2⟩
      · have : r = k := by simpa using h1
        subst this; exact ⟨by omega, h⟩
def sumL (V T : Nat → List Int) : Nat → Nat
  | 0 => 0
  | k + 1 => sumL V T k + (V k).length + (T k).length
theorem Fs.bound (isS : Nat → Bool) (V T : Nat → List Int) (head : List Int) : ∀ k, (Fs isS V T head k).2.2.length ≤ head.length + sumL V T k := by
  intro k
  induction k with
  | zero => exact Nat.le_refl _
  | succ k ih =>
    cases h : isS k with
    | true => rw [Fs.str h]; simp only [List.length_append, sumL]; omega
    | false => rw [Fs.id h]; simp only [sumL]; omega
theorem Fs.bounds (isS : Nat → Bool) (V T : Nat → List Int) (head : List Int) : ∀ k, ∀ s ∈ (Fs isS V T head k).1, s.length ≤ head.length + sumL V T k := by
  intro k
  induction k with
  | zero => intro r hr; cases hr
  | succ k ih =>
    have hm : sumL V T k ≤ sumL V T (k + 1) := by simp only [sumL]; omega
    cases h : isS k with
    | true => rw [Fs.str h]; intro r hr; have := ih r hr; omega
    | false =>
      rw [Fs.id h]
      intro r hr
      rcases List.mem_append.1 hr with h1 | h1
      · have := ih r h1; omega
      · have : r = (Fs isS V T head k).2.2 := by simpa using h1
        subst this; have := Fs.bound isS V T head k; omega
/-- All segments. -/
def segs (m : List (List Int) × List Nat × List Int) : List (List Int) := m.1 ++ [m.2.2]
theorem segs_str {isS : Nat → Bool} {V T : Nat → List Int} {head : List Int} {k : Nat} (h : isS k = true) : segs (Fs isS V T head (k + 1)) = (Fs isS V T head k).1 ++ [(Fs isS V T head k).2.2 ++ V k ++ T k] := by rw [Fs.str h]; rfl
theorem segs_id {isS : Nat → Bool} {V T : Nat → List Int} {head : List Int} {k : Nat} (h : isS k = false) : segs (Fs isS V T head (k + 1)) = segs (Fs isS V T head k) ++ [T k] := by rw [Fs.id h]; rfl

end Go.Proofs.YtlmjnlijoodbiaaDoor
