/-
  The children of an array pattern, as they lie in memory; no statement of its own.
-/
import Derived.Test.YtokkndnicpgdkaaRows
import Derived.WalkKit
import Derived.ProofKit
import Derived.OpenShut
import Derived.Test.YtokkndnicpgdkaaSlW
import Derived.Test.YtokkndnicpgdkaaLbA
import Derived.Test.YtokkndnicpgdkaaLbR
import Derived.Test.YtokkndnicpgdkaaLbE
import Derived.WalkLawsBesides
import Derived.WalkSpells
import Derived.Below
import Derived.Lib.Hide
namespace Go.Proofs.Ytokkndnicpgdkaa
open Go.ChangeShapes Go.WideShapes Go.ChangeAt Go.RowKit

set_option linter.unusedVariables false

/-- A child: its node, its location, the blocks that it lies in, its words. -/
structure Kd where
  T : TypeId
  g : Nat
  l : Nat
  lo : Nat
  hi : Nat
  ws : List Nat
def Kd.d (it : Kd) : Value := .iface it.T (ptr it.g)
def wsOf (its : List Kd) : List Nat := its.flatMap Kd.ws
theorem ws_take (its : List Kd) (k : Nat) (it : Kd) (h : its[k]? = some it) : wsOf (its.take (k + 1)) = wsOf (its.take k) ++ it.ws := by
  unfold wsOf; rw [List.take_add_one, h]; simp
theorem ws_snoc (its : List Kd) (it : Kd) : wsOf (its ++ [it]) = wsOf its ++ it.ws := by unfold wsOf; rw [List.flatMap_append, List.flatMap_singleton]
theorem ws_le (its : List Kd) (k : Nat) (it : Kd) (h : its[k]? = some it) : (wsOf (its.take k)).length + it.ws.length ≤ (wsOf its).length := by
  have h1 := ws_take its k it h
  have h2 : wsOf its = wsOf (its.take (k + 1)) ++ wsOf (its.drop (k + 1)) := by unfold wsOf; rw [← List.flatMap_append, List.take_append_drop]
  rw [h2, List.length_append, h1, List.length_append]; omega
/-- The row of an array pattern. -/
def RowA (w : World) (K n0 : Nat) (its : List Kd) : Prop := ∃ f, Rw w K 60 n0 5 f ∧ (∀ i it, its[i]? = some it → f i 0 = it.d ∧ f i 1 = .int .i32 (it.l : Int)) ∧ ∀ i, i < n0 → f i 2 = .nilIface ∧ f i 3 = .int .i32 0 ∧ f i 4 = .int .i32 0
/-- The children: where they stand in the stream, where they lie, and what the conversion does with them. -/
def KidsOk (lo hi : Nat) (w : World) (l1 : Nat) (its : List Kd) : Prop := ∀ i it, its[i]? = some it → it.l = l1 + (wsOf (its.take i)).length ∧ lo ≤ it.lo ∧ it.hi ≤ hi ∧ Conv it.lo it.hi w it.d it.l it.ws
theorem agreeT_set {lo hi K o : Nat} {v : Value} (w : World) (h : K < lo ∨ hi ≤ K) : AgreeT lo hi w (w.setCell ⟨K, o, none⟩ v) := fun b cs t fr h1 h2 _ h3 => by
  rw [Below.heap_setCell _ _ _ _ (by show b ≠ K; omega)]; exact h3
theorem KidsOk.move {lo hi hi' : Nat} {w w' : World} {l1 : Nat} {its : List Kd} (h : KidsOk lo hi w l1 its) (hh : hi ≤ hi') (ha : AgreeT lo hi w w') : KidsOk lo hi' w' l1 its := fun i it hit => by
  obtain ⟨h1, h2, h3, h4⟩ := h i it hit
  exact ⟨h1, h2, by omega, h4.agree (ha.sub h2 h3)⟩
theorem KidsOk.snoc {lo hi : Nat} {w : World} {l1 : Nat} {its : List Kd} {it : Kd} (h : KidsOk lo hi w l1 its) (h1 : it.l = l1 + (wsOf its).length) (h2 : lo ≤ it.lo) (h3 : it.hi ≤ hi) (h4 : Conv it.lo it.hi w it.d it.l it.ws) : KidsOk lo hi w l1 (its ++ [it]) := fun i x hx => by
  by_cases hi' : i < its.length
  · rw [List.getElem?_append_left hi'] at hx
    obtain ⟨a1, a2, a3, a4⟩ := h i x hx
    exact ⟨by rw [List.take_append_of_le_length (by omega)]; exact a1, a2, a3, a4⟩
  · rw [List.getElem?_append_right (by omega)] at hx
    have e : i - its.length = 0 := by
      rcases Nat.eq_zero_or_pos (i - its.length) with e | e
      · exact e
      · rw [List.getElem?_eq_none (by simp; omega)] at hx; cases hx
    rw [e] at hx
    simp at hx
    subst hx
    have e2 : i = its.length := by omega
    subst e2
    exact ⟨by rw [List.take_left']; exact h1; rfl, h2, h3, h4⟩
/-- What is to be shown of the conversion of an array pattern. -/
def ArrOk : Prop := ∀ (lo hi : Nat) (w : World) (q l n0 K : Nat) (sp sg : Bool) (its : List Kd), n0 ≤ 15 → (sp = true → 0 < n0) → its.length = n0 → Bk w q 63 #[.slice (some ⟨K, 0, none⟩) n0 n0, .int .i32 0, .bool sp, .bool sg] → lo ≤ q → q < hi → lo ≤ K → K < hi → RowA w K n0 its → KidsOk lo hi w (l + 1) its → l + 1 + (wsOf its).length ≤ 1000000 →
  Conv lo hi w (.iface 61 (ptr q)) l (hdrA n0 sp sg :: wsOf its)
def ArrOk0 : Prop := ∀ (lo hi : Nat) (w : World) (q l n0 K : Nat) (sp sg : Bool) (its : List Kd), n0 ≤ 15 → (sp = true → 0 < n0) → its.length = n0 → Bk w q 63 #[.slice (some ⟨K, 0, none⟩) n0 n0, .int .i32 0, .bool sp, .bool sg] → lo ≤ q → q < hi → lo ≤ K → K < hi → RowA w K n0 its → KidsOk lo hi w (l + 1) its → l + 1 + (wsOf its).length ≤ 1000000 →
  Conv0 lo hi w (.iface 61 (ptr q)) l (hdrA n0 sp sg :: wsOf its)
theorem RowA.set {w : World} {K n0 k : Nat} {its : List Kd} (h : RowA w K n0 its) (hk : its.length = k) (hk0 : k < n0) (it : Kd) : RowA ((w.setCell ⟨K, k * 5, none⟩ it.d).setCell ⟨K, k * 5 + 1, none⟩ (.int .i32 (it.l : Int))) K n0 (its ++ [it]) := by
  obtain ⟨f, h1, h2, h3⟩ := h
  have g1 := h1.set (i := k) (j := 0) hk0 (by omega) it.d
  rw [Nat.add_zero] at g1
  have g2 := g1.set (i := k) (j := 1) hk0 (by omega) (.int .i32 (it.l : Int))
  refine ⟨_, g2, fun i x hx => ?_, fun i hi => ?_⟩
  · by_cases hi' : i < its.length
    · rw [List.getElem?_append_left hi'] at hx
      rw [upd_other _ _ _ _ _ _ (by omega), upd_other _ _ _ _ _ _ (by omega), upd_other _ _ _ _ _ _ (by omega), upd_other _ _ _ _ _ _ (by omega)]
      exact h2 i x hx
    · rw [List.getElem?_append_right (by omega)] at hx
      have e : i - its.length = 0 := by
        rcases Nat.eq_zero_or_pos (i - its.length) with e | e
        · exact e
        · rw [List.getElem?_eq_none (by simp; omega)] at hx; cases hx
      rw [e] at hx
      simp at hx
      subst hx
      have e2 : i = k := by omega
      subst e2
      exact ⟨by rw [upd_other _ _ _ _ _ _ (by omega), upd_same], upd_same _ _ _ _⟩
  · rw [upd_other _ _ _ _ _ _ (by omega), upd_other _ _ _ _ _ _ (by omega), upd_other _ _ _ _ _ _ (by omega), upd_other _ _ _ _ _ _ (by omega), upd_other _ _ _ _ _ _ (by omega), upd_other _ _ _ _ _ _ (by omega)]
    exact h3 i hi
/-- What holds at the head of a round of the parser's loop over the items. -/
structure Pa (P B : Nat) (A : Option Addr) (n c p1 K n0 : Nat) (cs1 : List Nat) (w : World) (R S l0 : Nat) (k pos : Nat) (its : List Kd) (wr : World) : Prop where
  st : PSt P B A n c pos (cs1 ++ wsOf its) wr
  row : RowA wr K n0 its
  kids : KidsOk (K + 1) wr.heap.size wr cs1.length its
  keep : KeepT P w wr
  bl : Below B w wr
  rb : Bk wr R 32 #[.nilIface, .int .i32 0]
  sb : Bk wr S 32 #[.nilIface, .int .i32 (l0 : Int)]
  len : its.length = k
  p0 : p1 ≤ pos
  pn : pos ≤ n
  wl : (wsOf its).length ≤ k + 30 * (pos - p1)
theorem RowA.bk {w : World} {K n0 : Nat} {its : List Kd} (h : RowA w K n0 its) : ∃ cs, Bk w K 60 cs := by obtain ⟨f, ⟨arr, h1, _⟩, _⟩ := h; exact ⟨arr, h1⟩
theorem RowA.move {w w' : World} {K n0 : Nat} {its : List Kd} (h : RowA w K n0 its) (hk : ∀ cs, Bk w K 60 cs → Bk w' K 60 cs) : RowA w' K n0 its := by obtain ⟨f, h1, h2, h3⟩ := h; exact ⟨f, h1.move hk, h2, h3⟩
theorem Pa.step {P B : Nat} {A : Option Addr} {n c p1 K n0 : Nat} {cs1 : List Nat} {w : World} {R S l0 k pos pos' : Nat} {its : List Kd} {wr w1 : World} {T : TypeId} {g : Nat} {ws : List Nat} (H : Pa P B A n c p1 K n0 cs1 w R S l0 k pos its wr)
    (hk : k < n0) (hP : P < w.heap.size) (hB : B ≤ P) (hK : w.heap.size ≤ K) (hp : pos ≤ pos') (hpn : pos' ≤ pos + (n - pos)) (hws : ws.length ≤ 1 + 30 * (pos' - pos)) (hst : PSt P B A n c pos' ((cs1 ++ wsOf its) ++ ws) w1) (hkeep : KeepT P wr w1) (hbl : Below B wr w1) (hsz : wr.heap.size ≤ w1.heap.size) (hR : R ≠ P) (hS : S ≠ P)
    (hc : Conv wr.heap.size w1.heap.size w1 (.iface T (ptr g)) (cs1 ++ wsOf its).length ws) :
    Pa P B A n c p1 K n0 cs1 w R S l0 (k + 1) pos' (its ++ [⟨T, g, (cs1 ++ wsOf its).length, wr.heap.size, w1.heap.size, ws⟩]) ((w1.setCell ⟨K, k * 5, none⟩ (.iface T (ptr g))).setCell ⟨K, k * 5 + 1, none⟩ (.int .i32 ((cs1 ++ wsOf its).length : Int))) := by
  obtain ⟨cs0, hkb⟩ := H.row.bk
  have hKP : K ≠ P := by omega
  have hkb1 := hkeep.bk hkb hKP (by decide)
  have hKw : K < wr.heap.size := hkb.lt
  have rRK : R ≠ K := H.rb.ne hkb (by decide)
  have sSK : S ≠ K := H.sb.ne hkb (by decide)
  have hP1 : P < wr.heap.size := H.st.lt
  refine ⟨?_, ?_, ?_, ?_, ?_, ?_, ?_, by rw [List.length_append, H.len]; rfl, by have := H.p0; omega, by have := H.pn; omega, ?_⟩
  · rw [ws_snoc, ← List.append_assoc]
    exact (hst.set hkb1 (by decide) (by decide)).set hkb1.setSelf (by decide) (by decide)
  · exact (H.row.move fun cs hb => hkeep.bk hb hKP (by decide)).set H.len hk ⟨T, g, (cs1 ++ wsOf its).length, wr.heap.size, w1.heap.size, ws⟩
  · have e1 : (cs1 ++ wsOf its).length = cs1.length + (wsOf its).length := List.length_append
    refine KidsOk.snoc (H.kids.move (by simp; omega) ?_) e1 (by show K + 1 ≤ wr.heap.size; omega) (by simp) (hc.agree ?_)
    · exact ((hkeep.agree (by omega)).trans (agreeT_set _ (.inl (by omega)))).trans (agreeT_set _ (.inl (by omega)))
    · exact (agreeT_set _ (.inl (by show K < wr.heap.size; omega))).trans (agreeT_set _ (.inl (by show K < wr.heap.size; omega)))
  · exact ((H.keep.trans hkeep).setNew hK _ _).setNew hK _ _
  · exact ((H.bl.trans hbl).setCell (by show B ≤ K; omega) _).setCell (by show B ≤ K; omega) _
  · exact ((hkeep.bk H.rb hR (by decide)).set rRK).set rRK
  · exact ((hkeep.bk H.sb hS (by decide)).set sSK).set sSK
  · rw [ws_snoc, List.length_append]
    have h1 := H.wl; have h2 := H.p0
    show (wsOf its).length + ws.length ≤ k + 1 + 30 * (pos' - p1)
    omega
theorem KidsOk.mono {lo lo' hi : Nat} {w : World} {l1 : Nat} {its : List Kd} (h : KidsOk lo hi w l1 its) (hl : lo' ≤ lo) : KidsOk lo' hi w l1 its := fun i it hit => by
  obtain ⟨h1, h2, h3, h4⟩ := h i it hit
  exact ⟨h1, by omega, h3, h4⟩
theorem agreeT_alloc {lo hi : Nat} (w : World) (o : Obj) : AgreeT lo hi w (w.alloc o) := fun b cs t fr _ _ _ h3 => by
  rw [Below.heap_alloc _ _ _ (heap_lt h3)]; exact h3

end Go.Proofs.Ytokkndnicpgdkaa
