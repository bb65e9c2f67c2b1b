/-
  A row of structs in memory, cell by cell; no statement of its own.
-/
import Derived.Test.YtlmjnlijoodbiaaDoorRows
import Derived.WalkKit
import Derived.ProofKit
import Derived.OpenShut
import Derived.Test.YtlmjnlijoodbiaaDoorSlW
import Derived.Test.YtlmjnlijoodbiaaDoorIpC
import Derived.Test.YtlmjnlijoodbiaaDoorIpA
import Derived.WalkLawsBesides
import Derived.WalkSpells
import Derived.Below
import Derived.Lib.Hide
import Derived.Laws.MakeOwn
namespace Go.Proofs.YtlmjnlijoodbiaaDoor
open Go.ChangeShapes Go.WideShapes Go.ChangeAt Go.RowKit

set_option linter.unusedVariables false

/-- Block K is a row of n structs of s cells; cell j of struct i is f i j. -/
def Rw (w : World) (K : Nat) (t : TypeId) (n s : Nat) (f : Nat → Nat → Value) : Prop := ∃ arr : Array Value, Bk w K t arr ∧ arr.size = n * s ∧ ∀ i j, i < n → j < s → arr[i * s + j]? = some (f i j)
def upd (f : Nat → Nat → Value) (i j : Nat) (v : Value) : Nat → Nat → Value := fun a b => if a = i ∧ b = j then v else f a b
theorem upd_same (f : Nat → Nat → Value) (i j : Nat) (v : Value) : upd f i j v i j = v := if_pos ⟨rfl, rfl⟩
theorem upd_other (f : Nat → Nat → Value) (i j a b : Nat) (v : Value) (h : ¬ (a = i ∧ b = j)) : upd f i j v a b = f a b := if_neg h
theorem Rw.lt {w : World} {K : Nat} {t : TypeId} {n s : Nat} {f : Nat → Nat → Value} (h : Rw w K t n s f) : K < w.heap.size := by obtain ⟨arr, h1, _⟩ := h; exact h1.lt
theorem Rw.cell {w : World} {K : Nat} {t : TypeId} {n s : Nat} {f : Nat → Nat → Value} (h : Rw w K t n s f) {i j : Nat} (hi : i < n) (hj : j < s) : w.cell? ⟨K, i * s + j, none⟩ = some (f i j) := by
  obtain ⟨arr, h1, h2, h3⟩ := h; rw [h1.cell]; exact h3 i j hi hj
theorem Rw.frozen {w : World} {K : Nat} {t : TypeId} {n s : Nat} {f : Nat → Nat → Value} (h : Rw w K t n s f) (o : Nat) : w.frozen? ⟨K, o, none⟩ = false := by
  obtain ⟨arr, h1, h2, h3⟩ := h; exact h1.frozen o
theorem Rw.move {w w' : World} {K : Nat} {t : TypeId} {n s : Nat} {f : Nat → Nat → Value} (h : Rw w K t n s f) (hk : ∀ cs, Bk w K t cs → Bk w' K t cs) : Rw w' K t n s f := by
  obtain ⟨arr, h1, h2, h3⟩ := h; exact ⟨arr, hk _ h1, h2, h3⟩
theorem Rw.ne {w : World} {K g : Nat} {t t' : TypeId} {n s : Nat} {f : Nat → Nat → Value} {cs : Array Value} (h : Rw w K t n s f) (h' : Bk w g t' cs) (hne : t ≠ t') : K ≠ g := by
  obtain ⟨arr, h1, h2, h3⟩ := h; exact h1.ne h' hne
theorem at_inj {s i j a b : Nat} (hj : j < s) (hb : b < s) (h : i * s + j = a * s + b) : i = a ∧ j = b := by
  have h1 : (i * s + j) / s = i := by rw [Nat.mul_comm, Nat.mul_add_div (by omega), Nat.div_eq_of_lt hj]; omega
  have h2 : (a * s + b) / s = a := by rw [Nat.mul_comm, Nat.mul_add_div (by omega), Nat.div_eq_of_lt hb]; omega
  have h3 : i = a := by rw [← h1, ← h2, h]
  subst h3
  exact ⟨rfl, by omega⟩
theorem at_lt {s n i j : Nat} (hi : i < n) (hj : j < s) : i * s + j < n * s := by
  have h1 : (i + 1) * s ≤ n * s := Nat.mul_le_mul_right s hi
  rw [Nat.succ_mul] at h1; omega
theorem Rw.set {w : World} {K : Nat} {t : TypeId} {n s : Nat} {f : Nat → Nat → Value} (h : Rw w K t n s f) {i j : Nat} (hi : i < n) (hj : j < s) (v : Value) : Rw (w.setCell ⟨K, i * s + j, none⟩ v) K t n s (upd f i j v) := by
  obtain ⟨arr, h1, h2, h3⟩ := h
  refine ⟨_, h1.setSelf, by rw [Array.size_setIfInBounds]; exact h2, fun a b ha hb => ?_⟩
  rw [Array.getElem?_setIfInBounds]
  by_cases e : a = i ∧ b = j
  · obtain ⟨rfl, rfl⟩ := e
    rw [if_pos rfl, if_pos (by rw [h2]; exact at_lt hi hj), upd_same]
  · rw [if_neg (fun h => e ((at_inj hj hb h).imp Eq.symm Eq.symm)), upd_other _ _ _ _ _ _ e]; exact h3 a b ha hb
theorem Rw.made (w : World) (t : TypeId) (n s : Nat) (zs : Array Value) (hz : zs.size = s) (hs : 0 < s) : Rw (w.alloc (.cells (madeCells zs (n * s)) t)) w.heap.size t n s (fun _ j => zs[j]!) := by
  refine ⟨_, Bk.new _ _ _, by simp [madeCells], fun i j hi hj => ?_⟩
  have h1 : i * s + j < n * s := at_lt hi hj
  have h2 : (i * s + j) % s = j := by rw [Nat.mul_comm, Nat.mul_add_mod, Nat.mod_eq_of_lt hj]
  have h3 : (Array.range (n * s))[i * s + j]? = some (i * s + j) := by rw [Array.getElem?_eq_getElem (by simpa using h1)]; simp
  unfold madeCells
  rw [Array.getElem?_map, h3]
  simp only [Option.map_some, hz, h2]

end Go.Proofs.YtlmjnlijoodbiaaDoor
