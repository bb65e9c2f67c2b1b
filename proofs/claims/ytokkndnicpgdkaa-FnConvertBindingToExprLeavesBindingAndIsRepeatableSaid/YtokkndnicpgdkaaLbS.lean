/-
  The serialiser on an array expression; no statement of its own.
-/
import Derived.Test.YtokkndnicpgdkaaRows
import Derived.WalkKit
import Derived.ProofKit
import Derived.OpenShut
import Derived.Test.YtokkndnicpgdkaaSlW
import Derived.Test.YtokkndnicpgdkaaLbA
import Derived.Test.YtokkndnicpgdkaaLbR
import Derived.Test.YtokkndnicpgdkaaLbE
import Derived.Test.YtokkndnicpgdkaaCbW
import Derived.Test.YtokkndnicpgdkaaLbK
import Derived.Test.YtokkndnicpgdkaaLbB
import Derived.WalkLawsBesides
import Derived.WalkSpells
import Derived.Below
import Derived.Lib.Hide
import Derived.Outline
import Derived.OwnWalk
import Derived.Laws.OwnMore
import Derived.Maps.AppendAt
import Derived.RegionTactic
import Derived.Deep.QuietTactic
import Derived.BigQuiet
import Derived.Deep.Cut
import Derived.LoopTactic
namespace Go.Proofs.Ytokkndnicpgdkaa
open Go.ChangeShapes Go.WideShapes Go.ChangeAt Go.RowKit

set_option linter.unusedVariables false

/-- The items: where they stand in the stream, where they lie, what the serialiser writes on them. -/
def ItemsOk (lo0 hi0 lo hi : Nat) (w : World) (l1 n0 : Nat) (sp : Bool) (its : List Xi) : Prop := ∀ i x, its[i]? = some x → x.l = l1 + (wsX (its.take i)).length ∧ lo ≤ x.lo ∧ x.hi ≤ hi ∧ x.T ≠ 89 ∧ Ser lo0 hi0 x.lo x.hi w x.d x.l x.ws ∧ (sp = true → i + 1 = n0 → lo ≤ x.s ∧ x.s < hi ∧ Bk w x.s 91 #[x.d, .int .i32 (x.l : Int)])
theorem wsX_take (its : List Xi) (k : Nat) (it : Xi) (h : its[k]? = some it) : wsX (its.take (k + 1)) = wsX (its.take k) ++ it.ws := by
  unfold wsX; rw [List.take_add_one, h]; simp
theorem wsX_le (its : List Xi) (k : Nat) (it : Xi) (h : its[k]? = some it) : (wsX (its.take k)).length + it.ws.length ≤ (wsX its).length := by
  have h1 := wsX_take its k it h
  have h2 : wsX its = wsX (its.take (k + 1)) ++ wsX (its.drop (k + 1)) := by unfold wsX; rw [← List.flatMap_append, List.take_append_drop]
  rw [h2, List.length_append, h1, List.length_append]; omega
/-- What is to be shown of the serialiser on an array expression. -/
def SerArrOk : Prop := ∀ (lo0 hi0 lo hi : Nat) (w : World) (q l n0 K : Nat) (sp sg : Bool) (its : List Xi), n0 ≤ 15 → (sp = true → 0 < n0) → its.length = n0 → Bk w q 95 #[.slice (some ⟨K, 0, none⟩) n0 n0, .int .i32 0, .int .i32 0, .bool sg, .bool false] → lo ≤ q → q < hi → lo ≤ K → K < hi → RowX w K n0 sp its → ItemsOk lo0 hi0 lo hi w (l + 1) n0 sp its → l + 1 + (wsX its).length ≤ 1000000 →
  Ser lo0 hi0 lo hi w (.iface 93 (ptr q)) l (hdrA n0 sp sg :: wsX its)
def SerArrOk0 : Prop := ∀ (lo0 hi0 lo hi : Nat) (w : World) (q l n0 K : Nat) (sp sg : Bool) (its : List Xi), n0 ≤ 15 → (sp = true → 0 < n0) → its.length = n0 → Bk w q 95 #[.slice (some ⟨K, 0, none⟩) n0 n0, .int .i32 0, .int .i32 0, .bool sg, .bool false] → lo ≤ q → q < hi → lo ≤ K → K < hi → RowX w K n0 sp its → ItemsOk lo0 hi0 lo hi w (l + 1) n0 sp its → l + 1 + (wsX its).length ≤ 1000000 →
  Ser0 lo0 hi0 lo hi w (.iface 93 (ptr q)) l (hdrA n0 sp sg :: wsX its)
theorem RowX.bk {w : World} {K n0 : Nat} {sp : Bool} {its : List Xi} (h : RowX w K n0 sp its) : ∃ cs, Bk w K 42 cs := by obtain ⟨f, ⟨arr, h1, _⟩, _⟩ := h; exact ⟨arr, h1⟩
theorem RowX.move {w w' : World} {K n0 : Nat} {sp : Bool} {its : List Xi} (h : RowX w K n0 sp its) (hk : ∀ cs, Bk w K 42 cs → Bk w' K 42 cs) : RowX w' K n0 sp its := by obtain ⟨f, h1, h2⟩ := h; exact ⟨f, h1.move hk, h2⟩
theorem get_snoc {α : Type} {l : List α} {x y : α} {i : Nat} (h : (l ++ [x])[i]? = some y) : (i < l.length ∧ l[i]? = some y) ∨ (i = l.length ∧ y = x) := by
  by_cases hi : i < l.length
  · rw [List.getElem?_append_left hi] at h; exact .inl ⟨hi, h⟩
  · rw [List.getElem?_append_right (by omega)] at h
    have e : i - l.length = 0 := by
      rcases Nat.eq_zero_or_pos (i - l.length) with e | e
      · exact e
      · rw [List.getElem?_eq_none (by simp; omega)] at h; cases h
    rw [e] at h
    simp at h
    exact .inr ⟨by omega, h.symm⟩
theorem RowX.set {w : World} {K n0 k : Nat} {sp : Bool} {its : List Xi} (h : RowX w K n0 sp its) (hk : its.length = k) (hk0 : k < n0) (x : Xi) (d : Value) (hd : d = if sp = true ∧ k + 1 = n0 then .iface 89 (ptr x.s) else x.d) : RowX ((w.setCell ⟨K, k * 2, none⟩ d).setCell ⟨K, k * 2 + 1, none⟩ (.int .i32 (x.l : Int))) K n0 sp (its ++ [x]) := by
  obtain ⟨f, h1, h2⟩ := h
  have g1 := h1.set (i := k) (j := 0) hk0 (by omega) d
  rw [Nat.add_zero] at g1
  have g2 := g1.set (i := k) (j := 1) hk0 (by omega) (.int .i32 (x.l : Int))
  refine ⟨_, g2, fun i y hy => ?_⟩
  rcases get_snoc hy with ⟨hi, hy⟩ | ⟨hi, rfl⟩
  · rw [upd_other _ _ _ _ _ _ (by omega), upd_other _ _ _ _ _ _ (by omega), upd_other _ _ _ _ _ _ (by omega), upd_other _ _ _ _ _ _ (by omega)]
    exact h2 i y hy
  · have e2 : i = k := by omega
    subst e2
    exact ⟨by rw [upd_other _ _ _ _ _ _ (by omega), upd_same]; exact hd, upd_same _ _ _ _⟩
theorem ItemsOk.move {lo0 hi0 lo hi hi' : Nat} {w w' : World} {l1 n0 : Nat} {sp : Bool} {its : List Xi} (h : ItemsOk lo0 hi0 lo hi w l1 n0 sp its) (hh : hi ≤ hi') (h0 : AgreeT lo0 hi0 w w') (ha : AgreeT lo hi w w') : ItemsOk lo0 hi0 lo hi' w' l1 n0 sp its := fun i it hit => by
  obtain ⟨h1, h2, h3, h4, h5, h6⟩ := h i it hit
  exact ⟨h1, h2, by omega, h4, h5.agree h0 (ha.sub h2 h3), fun a b => by obtain ⟨c1, c2, c3⟩ := h6 a b; exact ⟨c1, by omega, ha.bk c3 c1 c2 (by decide)⟩⟩
theorem ItemsOk.mono {lo0 hi0 lo lo' hi : Nat} {w : World} {l1 n0 : Nat} {sp : Bool} {its : List Xi} (h : ItemsOk lo0 hi0 lo hi w l1 n0 sp its) (hl : lo' ≤ lo) : ItemsOk lo0 hi0 lo' hi w l1 n0 sp its := fun i it hit => by
  obtain ⟨h1, h2, h3, h4, h5, h6⟩ := h i it hit
  exact ⟨h1, by omega, h3, h4, h5, fun a b => by obtain ⟨c1, c2, c3⟩ := h6 a b; exact ⟨by omega, c2, c3⟩⟩
theorem ItemsOk.snoc {lo0 hi0 lo hi : Nat} {w : World} {l1 n0 : Nat} {sp : Bool} {its : List Xi} {x : Xi} (h : ItemsOk lo0 hi0 lo hi w l1 n0 sp its) (h1 : x.l = l1 + (wsX its).length) (h2 : lo ≤ x.lo) (h3 : x.hi ≤ hi) (h4 : x.T ≠ 89) (h5 : Ser lo0 hi0 x.lo x.hi w x.d x.l x.ws) (h6 : sp = true → its.length + 1 = n0 → lo ≤ x.s ∧ x.s < hi ∧ Bk w x.s 91 #[x.d, .int .i32 (x.l : Int)]) : ItemsOk lo0 hi0 lo hi w l1 n0 sp (its ++ [x]) := fun i y hy => by
  rcases get_snoc hy with ⟨hi, hy⟩ | ⟨rfl, rfl⟩
  · obtain ⟨a1, a2, a3, a4, a5, a6⟩ := h i y hy
    exact ⟨by rw [List.take_append_of_le_length (by omega)]; exact a1, a2, a3, a4, a5, a6⟩
  · exact ⟨by rw [List.take_left']; exact h1; rfl, h2, h3, h4, h5, h6⟩
theorem wsX_snoc (its : List Xi) (it : Xi) : wsX (its ++ [it]) = wsX its ++ it.ws := by unfold wsX; rw [List.flatMap_append, List.flatMap_singleton]
/-- What holds at the head of a round of the conversion's loop over the items. -/
structure Ca (lo0 hi0 : Nat) (w1 : World) (K2 n0 l1 l : Nat) (sp : Bool) (its : List Kd) (k : Nat) (xs : List Xi) (wr : World) : Prop where
  row : RowX wr K2 n0 sp xs
  items : ItemsOk lo0 hi0 (K2 + 1) wr.heap.size wr l1 n0 sp xs
  len : xs.length = k
  wse : wsX xs = wsOf (its.take k)
  bl : Below w1.heap.size w1 wr
  rb : Bk wr (w1.heap.size + 1) 42 #[.nilIface, .int .i32 0]
  lb : Bk wr (w1.heap.size + 1 + 1) 30 #[.int .i32 (l : Int)]

end Go.Proofs.Ytokkndnicpgdkaa
