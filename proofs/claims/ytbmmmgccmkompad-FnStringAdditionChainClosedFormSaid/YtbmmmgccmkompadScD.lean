/-
  zzBuildChain: the chain that the laws build; no statement of its own.
-/
import Derived.Test.YtbmmmgccmkompadRows
import Derived.WalkKit
import Derived.ProofKit
import Derived.OpenShut
import Derived.Test.YtbmmmgccmkompadSlW
import Derived.Test.YtbmmmgccmkompadScA
import Derived.Test.YtbmmmgccmkompadScB
import Derived.Test.YtbmmmgccmkompadScC
import Derived.WalkLawsBesides
import Derived.WalkSpells
import Derived.Below
import Derived.Lib.Hide
import Derived.Outline
import Derived.Laws.MakeOwn
import Derived.LoopTactic
import Derived.RegionTactic
import Derived.Deep.RegionHeld3
import Derived.Deep.Cut
namespace Go.Proofs.Ytbmmmgccmkompad
open Go.ChangeShapes Go.WideShapes Go.ChangeAt Go.RowKit

set_option linter.unusedVariables false

theorem Opd.agree {w : World} {r : Int} {q q' : Nat} {d d' : Value} (h : Opd w r q d) (hq : q' = q) (hd : d' = d) : Opd w r q' d' := by subst hq hd; exact h
theorem Tree.agree {w : World} {ls : Bool} {rs : List Int} {D D' : Nat → Value} {G G' Q Q' : Nat → Nat} {m : Nat} (h : Tree w ls rs D G Q m) (hd : ∀ i, i ≤ m → D' i = D i) (hg : ∀ i, i ≤ m → G' i = G i) (hq : ∀ i, i ≤ m → Q' i = Q i) : Tree w ls rs D' G' Q' m :=
  ⟨h.z.agree (hq 0 (by omega)) (hd 0 (by omega)), fun i hi => by
    obtain ⟨h1, dr, h2, h3⟩ := h.s i hi
    exact ⟨by rw [hd _ (by omega), hg _ (by omega)]; exact h1, dr, by rw [hq _ (by omega)]; exact h2, by rw [hg _ (by omega), hd _ (by omega)]; exact h3⟩⟩
theorem info_x : (Try.prog.info? 34).map (fun i => (i.zero, i.size, i.bytes)) = some (some (.agg #[.nilIface, .int .i32 0]), 2, 24) := by kernel_rfl
theorem info_ip : (Try.prog.info? 44).map (fun i => (i.zero, i.size, i.bytes)) = some (some (.pointer none), 1, 8) := by kernel_rfl
/-- The arrays of the chain. -/
structure Rows (w : World) (N I n : Nat) (ls : Bool) (rs : List Int) (D : Nat → Value) (Q : Nat → Nat) (m : Nat) (an ai : Array Value) : Prop where
  bn : Bk w N 34 an
  bi : Bk w I 44 ai
  sn : an.size = 2 * (n + 1)
  si : ai.size = n + 1
  dn : ∀ j, j ≤ m → an[2 * j]? = some (D j) ∧ an[2 * j + 1]? = some (.int .i32 (loc j))
  d0 : ls = false → ai[0]? = some (ptr (Q 0))
  di : ∀ j, j < m → rs.getD j 0 < 0 → ai[j + 1]? = some (ptr (Q (j + 1)))
def chainCell (N I n : Nat) : Array Value := #[.slice (some ⟨N, 0, none⟩) (n + 1) (n + 1), .slice (some ⟨I, 0, none⟩) (n + 1) (n + 1)]
def Built (ls : Bool) (rs : List Int) (n : Nat) (w : World) (e : Ending) (w' : World) : Prop := ∃ D G Q N I an ai, e = .returned (.agg (chainCell N I n)) ∧ Tree w' ls rs D G Q n ∧ Rows w' N I n ls rs D Q n an ai ∧ Below w.heap.size w w'
theorem made_one (n : Nat) : (madeCells #[Value.nilIface, .int .i32 0] ((n + 1) * 2))[1]? = some (.int .i32 0) := by
  have h : (Array.range ((n + 1) * 2))[1]? = some 1 := by rw [Array.getElem?_eq_getElem (by simp; omega)]; simp
  simp [madeCells, h]
/-- The chain's own blocks, as they are made. -/
def Start (n : Nat) (w : World) (c : Value) (wx : World) : Prop := ∃ N I C, c = .pointer (some ⟨C, 0, none⟩) ∧ w.heap.size < N ∧ w.heap.size < I ∧ w.heap.size < C ∧ N ≠ I ∧ N ≠ C ∧ I ≠ C ∧ Bk wx w.heap.size 27 #[.slice none 0 0, .slice none 0 0] ∧
  Bk wx N 34 (madeCells #[.nilIface, .int .i32 0] ((n + 1) * 2)) ∧ Bk wx I 44 (madeCells #[.pointer none] (n + 1)) ∧ Bk wx C 27 (chainCell N I n) ∧ Below w.heap.size w wx
/-- Behind the first 'if': x0 stands in its box. -/
def Pre (ls : Bool) (n : Nat) (w wc : World) (N I C : Nat) (x : Value) (wx : World) : Prop := ∃ X q d ai, x = .pointer (some ⟨X, 0, none⟩) ∧ wc.heap.size ≤ X ∧ Opd wx (if ls then 1 else -1) q d ∧ Bk wx X 34 #[d, .int .i32 0] ∧ Bk wx w.heap.size 27 #[.slice none 0 0, .slice none 0 0] ∧
  Bk wx N 34 (madeCells #[.nilIface, .int .i32 0] ((n + 1) * 2)) ∧ Bk wx I 44 ai ∧ ai.size = n + 1 ∧ (ls = false → ai[0]? = some (ptr q)) ∧ Bk wx C 27 (chainCell N I n) ∧ Below w.heap.size w wx
/-- What holds at the head of the loop. -/
def Lp (ls : Bool) (rs : List Int) (n : Nat) (w : World) (N I C i : Nat) (wr : World) : Prop := ∃ D G Q an ai, Tree wr ls rs D G Q i ∧ Rows wr N I n ls rs D Q i an ai ∧ Bk wr w.heap.size 27 #[.slice none 0 0, .slice none 0 0] ∧ Bk wr C 27 (chainCell N I n) ∧ Below w.heap.size w wr
theorem lp_step {ls : Bool} {rs : List Int} {n : Nat} {w wr w4 w5 : World} {N I C i m E q : Nat} {r : Int} {D : Nat → Value} {G Q : Nat → Nat} {an ai ai' : Array Value} {dr : Value}
    (hm : m = i + 1) (hr0 : rs[i]? = some r) (hmn : m ≤ n + 1) (hlt : m ≤ n) (ht : Tree wr ls rs D G Q i) (hr : Rows wr N I n ls rs D Q i an ai)
    (k3 : ∀ q t cs, (t = 56 ∨ t = 50 ∨ t = 43) → Bk wr q t cs → Bk w4 q t cs) (op : Opd w4 r q dr)
    (has : ai'.size = n + 1 ∧ ∀ j, j < m → ai'[j]? = ai[j]?) (ax : r < 0 → ai'[m]? = some (ptr q))
    (k4 : ∀ q t cs, (t = 56 ∨ t = 50 ∨ t = 43) → Bk w4 q t cs → Bk w5 q t cs)
    (bn : Bk w5 N 34 ((an.setIfInBounds (m * 2) (.iface 39 (ptr E))).setIfInBounds (m * 2 + 1) (.int .i32 (2 * (m : Int) + 1))))
    (bi : Bk w5 I 44 ai') (bc : Bk w5 C 27 (chainCell N I n)) (b0 : Bk w5 w.heap.size 27 #[.slice none 0 0, .slice none 0 0])
    (be : Bk w5 E 43 #[D i, .int .i32 (loc i), dr, .int .i32 (2 * (m : Int)), .int .u8 11, .bool false]) (bl : Below w.heap.size w w5) : Lp ls rs n w N I C (i + 1) w5 := by
  subst hm
  have hg : rs.getD i 0 = r := by rw [List.getD_eq_getElem?_getD, hr0]; rfl
  have hd : ∀ j, j ≤ i → (fun j => if j ≤ i then D j else Value.iface 39 (ptr E)) j = D j := fun j hj => if_pos hj
  refine ⟨fun j => if j ≤ i then D j else .iface 39 (ptr E), fun j => if j ≤ i then G j else E, fun j => if j ≤ i then Q j else q, _, ai', ⟨?_, ?_⟩, ⟨bn, bi, ?_, has.1, ?_, ?_, ?_⟩, b0, bc, bl⟩
  · show Opd w5 _ (if 0 ≤ i then Q 0 else q) (if 0 ≤ i then D 0 else _)
    simp only [Nat.zero_le, if_true]
    exact (ht.z.move fun t cs h => k3 _ t cs (by rcases h with h | h <;> simp [h])).move fun t cs h => k4 _ t cs (by rcases h with h | h <;> simp [h])
  · intro j hj
    by_cases e : j = i
    · subst e
      refine ⟨by show (if j + 1 ≤ j then _ else _) = _; rw [if_neg (by omega)]; show _ = Value.iface _ (ptr (if j + 1 ≤ j then _ else _)); rw [if_neg (by omega)], dr, ?_, ?_⟩
      · show Opd w5 _ (if j + 1 ≤ j then _ else _) _
        rw [if_neg (by omega), hg]
        exact op.move fun t cs h => k4 _ t cs (by rcases h with h | h <;> simp [h])
      · show Bk w5 (if j + 1 ≤ j then _ else _) _ (binCells (if j ≤ j then _ else _) _ _ _)
        rw [if_neg (by omega), if_pos (by omega)]
        exact be
    · obtain ⟨h1, dr', h2, h3⟩ := ht.s j (by omega)
      refine ⟨?_, dr', ?_, ?_⟩
      · show (if j + 1 ≤ i then _ else _) = Value.iface _ (ptr (if j + 1 ≤ i then _ else _))
        rw [if_pos (by omega), if_pos (by omega)]; exact h1
      · show Opd w5 _ (if j + 1 ≤ i then _ else _) _
        rw [if_pos (by omega)]
        exact (h2.move fun t cs h => k3 _ t cs (by rcases h with h | h <;> simp [h])).move fun t cs h => k4 _ t cs (by rcases h with h | h <;> simp [h])
      · show Bk w5 (if j + 1 ≤ i then _ else _) _ (binCells (if j ≤ i then _ else _) _ _ _)
        rw [if_pos (by omega), if_pos (by omega)]
        exact k4 _ _ _ (by simp) (k3 _ _ _ (by simp) h3)
  · rw [Array.size_setIfInBounds, Array.size_setIfInBounds]; exact hr.sn
  · intro j hj
    show _ = some (if j ≤ i then D j else _) ∧ _
    have sn := hr.sn
    by_cases e : j ≤ i
    · rw [if_pos e]
      obtain ⟨h1, h2⟩ := hr.dn j e
      refine ⟨?_, ?_⟩
      · rw [Array.getElem?_setIfInBounds, if_neg (by omega), Array.getElem?_setIfInBounds, if_neg (by omega)]; exact h1
      · rw [Array.getElem?_setIfInBounds, if_neg (by omega), Array.getElem?_setIfInBounds, if_neg (by omega)]; exact h2
    · have e' : j = i + 1 := by omega
      subst e'
      rw [if_neg e]
      refine ⟨?_, ?_⟩
      · rw [Array.getElem?_setIfInBounds, if_neg (by omega), Array.getElem?_setIfInBounds, if_pos (by omega), if_pos (by omega)]
      · rw [Array.getElem?_setIfInBounds, if_pos (by omega), if_pos (by rw [Array.size_setIfInBounds]; omega), loc_succ]; simp
  · intro hl
    show _ = some (ptr (if 0 ≤ i then Q 0 else q))
    rw [if_pos (by omega), has.2 0 (by omega)]; exact hr.d0 hl
  · intro j hj hneg
    show _ = some (ptr (if j + 1 ≤ i then Q (j + 1) else q))
    by_cases e : j + 1 ≤ i
    · rw [if_pos e, has.2 (j + 1) (by omega)]; exact hr.di j (by omega) hneg
    · have e' : j = i := by omega
      subst e'
      rw [if_neg (by omega)]
      exact ax (by rw [← hg]; exact hneg)

end Go.Proofs.Ytbmmmgccmkompad
