/-
  What lies in the law's own arrays; plain laws on worlds, no walk.
-/
import Derived.Test.YtlmjnlijoodbiaaDoorRows
import Derived.WalkKit
import Derived.ProofKit
import Derived.OpenShut
import Derived.Test.YtlmjnlijoodbiaaDoorSlW
import Derived.Test.YtlmjnlijoodbiaaDoorIpC
import Derived.Test.YtlmjnlijoodbiaaDoorIpE
import Derived.Test.YtlmjnlijoodbiaaDoorIpA
import Derived.Test.YtlmjnlijoodbiaaDoorIpB
import Derived.Test.YtlmjnlijoodbiaaDoorIpM
import Derived.WalkLawsBesides
import Derived.WalkSpells
import Derived.Below
import Derived.Lib.Hide
import Derived.Outline
import Derived.OwnWalk
import Derived.Laws.MakeOwn
namespace Go.Proofs.YtlmjnlijoodbiaaDoor
open Go.ChangeShapes Go.WideShapes Go.ChangeAt Go.RowKit

set_option linter.unusedVariables false

/-- Block g has n cells; cell i holds a value of which P i holds. -/
def Cl (w : World) (g : Nat) (t : TypeId) (n : Nat) (P : Nat → Value → Prop) : Prop := ∃ cs : Array Value, Bk w g t cs ∧ cs.size = n ∧ ∀ i, i < n → ∃ v, cs[i]? = some v ∧ P i v
theorem Cl.lt {w : World} {g : Nat} {t : TypeId} {n : Nat} {P : Nat → Value → Prop} (h : Cl w g t n P) : g < w.heap.size := by obtain ⟨cs, h1, _⟩ := h; exact h1.lt
theorem Cl.cell {w : World} {g : Nat} {t : TypeId} {n : Nat} {P : Nat → Value → Prop} (h : Cl w g t n P) {i : Nat} (hi : i < n) : ∃ v, w.cell? ⟨g, i, none⟩ = some v ∧ P i v := by
  obtain ⟨cs, h1, _, h3⟩ := h; obtain ⟨v, h4, h5⟩ := h3 i hi; exact ⟨v, by rw [h1.cell]; exact h4, h5⟩
theorem Cl.frozen {w : World} {g : Nat} {t : TypeId} {n : Nat} {P : Nat → Value → Prop} (h : Cl w g t n P) (i : Nat) : w.frozen? ⟨g, i, none⟩ = false := by obtain ⟨cs, h1, _⟩ := h; exact h1.frozen i
theorem Cl.imp {w : World} {g : Nat} {t : TypeId} {n : Nat} {P Q : Nat → Value → Prop} (h : Cl w g t n P) (hp : ∀ i v, i < n → P i v → Q i v) : Cl w g t n Q := by
  obtain ⟨cs, h1, h2, h3⟩ := h; refine ⟨cs, h1, h2, fun i hi => ?_⟩; obtain ⟨v, h4, h5⟩ := h3 i hi; exact ⟨v, h4, hp i v hi h5⟩
theorem Cl.move {w w' : World} {g : Nat} {t : TypeId} {n : Nat} {P : Nat → Value → Prop} (h : Cl w g t n P) (hk : ∀ cs, Bk w g t cs → Bk w' g t cs) : Cl w' g t n P := by
  obtain ⟨cs, h1, h2⟩ := h; exact ⟨cs, hk _ h1, h2⟩
theorem Cl.later {w w' : World} {g : Nat} {t : TypeId} {n : Nat} {P : Nat → Value → Prop} (h : Cl w g t n P) (hb : Below w.heap.size w w') : Cl w' g t n P := h.move fun _ h => h.later hb
theorem Cl.below {w w' : World} {B g : Nat} {t : TypeId} {n : Nat} {P : Nat → Value → Prop} (h : Cl w g t n P) (hb : Below B w w') (hg : g < B) : Cl w' g t n P := h.move fun _ h => h.below hb hg
theorem Cl.set {w : World} {g : Nat} {t : TypeId} {n : Nat} {P : Nat → Value → Prop} (h : Cl w g t n P) {k : Nat} (v : Value) : Cl (w.setCell ⟨g, k, none⟩ v) g t n (fun i u => (i = k → u = v) ∧ (i ≠ k → P i u)) := by
  obtain ⟨cs, h1, h2, h3⟩ := h
  refine ⟨_, h1.setSelf, by rw [Array.size_setIfInBounds]; exact h2, fun i hi => ?_⟩
  rw [Array.getElem?_setIfInBounds]
  by_cases e : k = i
  · subst e; rw [if_pos rfl, if_pos (by omega)]; exact ⟨v, rfl, fun _ => rfl, fun h => absurd rfl h⟩
  · rw [if_neg e]; obtain ⟨u, h4, h5⟩ := h3 i hi; exact ⟨u, h4, fun h => absurd h.symm e, fun _ => h5⟩
theorem Cl.made (w : World) (n g : Nat) (t : TypeId) (z : Value) (hz : z.cells = #[z]) (hg : g = w.heap.size) : Cl (w.alloc (.cells (madeCells z.cells n) t)) g t n (fun _ v => v = z) := by
  subst hg
  refine ⟨_, Bk.new _ _ _, by simp [madeCells], fun i hi => ⟨z, ?_, rfl⟩⟩
  rw [hz]
  simp [madeCells, hi, Nat.mod_one]
theorem Cl.firsts {w : World} {g : Nat} {t : TypeId} {n : Nat} {P : Nat → Value → Prop} (h : Cl w g t n P) (r : Nat) (hr : r ≤ n) : ∃ olds : List Value, olds.length = r * 1 ∧ ∀ (j : Nat) u, olds[j]? = some u → w.cell? ⟨g, j, none⟩ = some u := by
  obtain ⟨cs, h1, h2, _⟩ := h
  refine ⟨cs.toList.take r, by rw [List.length_take, Array.length_toList, h2]; omega, fun j u hu => ?_⟩
  have hj : j < r := by
    have := (List.getElem?_eq_some_iff.1 hu).1
    rw [List.length_take] at this; omega
  rw [List.getElem?_take, if_pos hj] at hu
  rw [h1.cell, ← Array.getElem?_toList]; exact hu
theorem Ex.set {w : World} {B b o : Nat} {v u : Value} {us : List Int} {t : TypeId} {cb : Array Value} (h : Ex w B v us) (hb : Bk w b t cb) (ht : t ≠ 49) : Ex (w.setCell ⟨b, o, none⟩ u) B v us := by
  rcases h with h | ⟨g, h1, h2, h3⟩
  · exact .inl h
  · exact .inr ⟨g, h1, h2.set (h2.ne hb (Ne.symm ht)), h3⟩
theorem Ex.later {w w' : World} {v : Value} {us : List Int} (h : Ex w w.heap.size v us) (hb : Below w.heap.size w w') : Ex w' w'.heap.size v us := (h.below hb).more hb.size
/-- The three arrays of the law, filled up to a, b, c. -/
structure L1 (W wr : World) (Ib Vb Tb n : Nat) (isS : Nat → Bool) (V T : Nat → List Int) (a b c : Nat) : Prop where
  ib : Cl wr Ib 4 n fun i v => i < a → v = .bool (isS i)
  vb : Cl wr Vb 22 n fun i v => (i < b → Ex wr wr.heap.size v (V i)) ∧ (b ≤ i → v = .slice none 0 0)
  tb : Cl wr Tb 22 n fun i v => i < c → Ex wr wr.heap.size v (T i)
  bl : Below W.heap.size W wr
  ne : Vb ≠ Tb
  li : W.heap.size ≤ Ib
  lv : W.heap.size ≤ Vb
  lt : W.heap.size ≤ Tb
theorem L1.later {W wr w2 : World} {Ib Vb Tb n : Nat} {isS : Nat → Bool} {V T : Nat → List Int} {a b c : Nat} (h : L1 W wr Ib Vb Tb n isS V T a b c) (hb : Below wr.heap.size wr w2) : L1 W w2 Ib Vb Tb n isS V T a b c :=
  ⟨h.ib.later hb, (h.vb.later hb).imp fun i v hi hp => ⟨fun hl => (hp.1 hl).later hb, hp.2⟩, (h.tb.later hb).imp fun i v hi hp hl => (hp hl).later hb, h.bl.trans (hb.mono h.bl.size), h.ne, h.li, h.lv, h.lt⟩
theorem L1.i {W wr : World} {Ib Vb Tb n : Nat} {isS : Nat → Bool} {V T : Nat → List Int} {a b c : Nat} (h : L1 W wr Ib Vb Tb n isS V T a b c) {x : Value} (hx : x = .bool (isS a)) : L1 W (wr.setCell ⟨Ib, a, none⟩ x) Ib Vb Tb n isS V T (a + 1) b c := by
  obtain ⟨ci, hci, _⟩ := h.ib
  have e : (wr.setCell ⟨Ib, a, none⟩ x).heap.size = wr.heap.size := by simp
  refine ⟨(h.ib.set x).imp fun i v hi hp hl => ?_, (h.vb.move fun cs hb => hb.set (hb.ne hci (by decide))).imp fun i v hi hp => ⟨fun hl => ?_, hp.2⟩, (h.tb.move fun cs hb => hb.set (hb.ne hci (by decide))).imp fun i v hi hp hl => ?_, h.bl.setCell h.li _, h.ne, h.li, h.lv, h.lt⟩
  · by_cases ei : i = a
    · rw [hp.1 ei, hx, ei]
    · exact hp.2 ei (by omega)
  · rw [e]; exact (hp.1 hl).set hci (by decide)
  · rw [e]; exact (hp hl).set hci (by decide)
theorem L1.v {W wr : World} {Ib Vb Tb n : Nat} {isS : Nat → Bool} {V T : Nat → List Int} {a b c : Nat} (h : L1 W wr Ib Vb Tb n isS V T a b c) {x : Value} (hx : Ex wr wr.heap.size x (V b)) : L1 W (wr.setCell ⟨Vb, b, none⟩ x) Ib Vb Tb n isS V T a (b + 1) c := by
  obtain ⟨ci, hci, _⟩ := h.vb
  have e : (wr.setCell ⟨Vb, b, none⟩ x).heap.size = wr.heap.size := by simp
  refine ⟨h.ib.move fun cs hb => hb.set (hb.ne hci (by decide)), (h.vb.set x).imp fun i v hi hp => ⟨fun hl => ?_, fun hl => (hp.2 (by omega)).2 (by omega)⟩, (h.tb.move fun cs hb => hb.set (Ne.symm h.ne)).imp fun i v hi hp hl => ?_, h.bl.setCell h.lv _, h.ne, h.li, h.lv, h.lt⟩
  · rw [e]
    by_cases ei : i = b
    · rw [hp.1 ei, ei]; exact hx.set hci (by decide)
    · exact ((hp.2 ei).1 (by omega)).set hci (by decide)
  · rw [e]; exact (hp hl).set hci (by decide)
theorem L1.v0 {W wr : World} {Ib Vb Tb n : Nat} {isS : Nat → Bool} {V T : Nat → List Int} {a b c : Nat} (h : L1 W wr Ib Vb Tb n isS V T a b c) (hx : V b = []) : L1 W wr Ib Vb Tb n isS V T a (b + 1) c :=
  ⟨h.ib, h.vb.imp fun i v hi hp => ⟨fun hl => by
    by_cases ei : i = b
    · rw [ei, hx]; exact .inl ⟨hp.2 (by omega), rfl⟩
    · exact hp.1 (by omega), fun hl => hp.2 (by omega)⟩, h.tb, h.bl, h.ne, h.li, h.lv, h.lt⟩
theorem L1.t {W wr : World} {Ib Vb Tb n : Nat} {isS : Nat → Bool} {V T : Nat → List Int} {a b c : Nat} (h : L1 W wr Ib Vb Tb n isS V T a b c) {x : Value} (hx : Ex wr wr.heap.size x (T c)) : L1 W (wr.setCell ⟨Tb, c, none⟩ x) Ib Vb Tb n isS V T a b (c + 1) := by
  obtain ⟨ci, hci, _⟩ := h.tb
  have e : (wr.setCell ⟨Tb, c, none⟩ x).heap.size = wr.heap.size := by simp
  refine ⟨h.ib.move fun cs hb => hb.set (hb.ne hci (by decide)), (h.vb.move fun cs hb => hb.set h.ne).imp fun i v hi hp => ⟨fun hl => ?_, hp.2⟩, (h.tb.set x).imp fun i v hi hp hl => ?_, h.bl.setCell h.lt _, h.ne, h.li, h.lv, h.lt⟩
  · rw [e]; exact (hp.1 hl).set hci (by decide)
  · rw [e]
    by_cases ei : i = c
    · rw [hp.1 ei, ei]; exact hx.set hci (by decide)
    · exact (hp.2 ei (by omega)).set hci (by decide)
/-- The rows as a function, for new_template. -/
theorem Cl.fn {w : World} {g : Nat} {t : TypeId} {n : Nat} {P : Nat → Value → Prop} (h : Cl w g t n P) : ∃ f : Nat → Value, ∀ i, i < n → w.cell? ⟨g, i, none⟩ = some (f i) ∧ P i (f i) := by
  obtain ⟨cs, h1, h2, h3⟩ := h
  refine ⟨fun i => cs[i]?.getD .nilIface, fun i hi => ?_⟩
  obtain ⟨v, h4, h5⟩ := h3 i hi
  refine ⟨by rw [h1.cell]; show cs[i]? = some (cs[i]?.getD .nilIface); rw [h4]; rfl, ?_⟩
  show P i (cs[i]?.getD .nilIface)
  rw [h4]; exact h5
/-- What holds at the head of the law's folding loop. -/
structure Mid (w0 wr : World) (Sb Rb n Lc : Nat) (cv : Value) (m : List (List Int) × List Nat × List Int) : Prop where
  sg : Cl wr Sb 22 (n + 1) fun i v => ∀ s, m.1[i]? = some s → Row wr Lc v s
  rf : Cl wr Rb 2 n fun i v => ∀ x : Nat, m.2.1[i]? = some x → v = .int .i64 x
  cu : Ap wr Lc cv m.2.2
  bl : Below w0.heap.size w0 wr
  ls : w0.heap.size ≤ Sb
  lr : w0.heap.size ≤ Rb
  s1 : Sb < Lc
  r1 : Rb < Lc
  lc : Lc ≤ wr.heap.size
theorem Mid.str {w0 wr w2 : World} {Sb Rb n Lc : Nat} {cv v : Value} {m : List (List Int) × List Nat × List Int} {X : List Int} (h : Mid w0 wr Sb Rb n Lc cv m) (hb : Below Lc wr w2) (ha : Ap w2 Lc v X) : Mid w0 w2 Sb Rb n Lc v (m.1, m.2.1, X) :=
  ⟨(h.sg.below hb h.s1).imp fun i v hi hp s hs => (hp s hs).below hb, h.rf.below hb h.r1, ha, h.bl.trans (hb.mono (by have := h.ls; have := h.s1; omega)), h.ls, h.lr, h.s1, h.r1, by have := hb.size; have := h.lc; omega⟩
theorem Cl.alloc {w : World} {g : Nat} {t : TypeId} {n : Nat} {P : Nat → Value → Prop} (h : Cl w g t n P) (o : Obj) : Cl (w.alloc o) g t n P := h.move fun _ h => h.alloc o
theorem Row.keep {w w' : World} {B B' : Nat} {v : Value} {us : List Int} (h : Row w B v us) (hB : B ≤ B') (hk : ∀ cs g, Bk w g 49 cs → Bk w' g 49 cs) : Row w' B' v us := by
  rcases h with h | ⟨g, c, cs, h1, h2, h3, h4⟩
  · exact .inl h
  · exact .inr ⟨g, c, cs, h1, hk _ _ h2, by omega, h4⟩
/-- The segment at hand put behind the finished ones. -/
theorem seg_push {w0 wr : World} {Sb Rb n Lc : Nat} {cv : Value} {m : List (List Int) × List Nat × List Int} (h : Mid w0 wr Sb Rb n Lc cv m) (o : Obj) :
    Cl ((wr.alloc o).setCell ⟨Sb, m.1.length, none⟩ cv) Sb 22 (n + 1) fun i v => ∀ s, (m.1 ++ [m.2.2])[i]? = some s → Row ((wr.alloc o).setCell ⟨Sb, m.1.length, none⟩ cv) (wr.heap.size + 1) v s := by
  have h6 := h.sg.alloc o
  have h6' := h6
  obtain ⟨ci, hci, _⟩ := h6'
  have hk : ∀ cs g, Bk wr g 49 cs → Bk ((wr.alloc o).setCell ⟨Sb, m.1.length, none⟩ cv) g 49 cs := fun cs g hb => (hb.alloc o).set ((hb.alloc o).ne hci (by decide))
  have hl := h.lc
  refine (h6.set cv).imp fun i v hi hp s hs => ?_
  by_cases ei : i = m.1.length
  · rw [hp.1 ei]
    rw [ei, List.getElem?_append_right (by omega), show m.1.length - m.1.length = 0 by omega] at hs
    obtain rfl : m.2.2 = s := by simpa using hs
    exact h.cu.row.keep (by omega) hk
  · have hil : i < m.1.length := by
      have := (List.getElem?_eq_some_iff.1 hs).1
      rw [List.length_append, List.length_singleton] at this; omega
    rw [List.getElem?_append_left hil] at hs
    exact (hp.2 ei s hs).keep (by omega) hk
theorem Mid.id {w0 wr w2 : World} {Sb Rb n Lc k : Nat} {cv v : Value} {m : List (List Int) × List Nat × List Int} {X : List Int} (h : Mid w0 wr Sb Rb n Lc cv m) (hl : m.1.length = m.2.1.length) (o o' : Obj) (hne : Sb ≠ Rb)
    (hb : Below (wr.heap.size + 1 + 1) ((((wr.alloc o).setCell ⟨Sb, m.1.length, none⟩ cv).alloc o').setCell ⟨Rb, m.2.1.length, none⟩ (.int .i64 k)) w2) (ha : Ex w2 w2.heap.size v X) : Mid w0 w2 Sb Rb n w2.heap.size v (m.1 ++ [m.2.2], m.2.1 ++ [k], X) := by
  have s1 := h.s1
  have r1 := h.r1
  have ls := h.ls
  have lr := h.lr
  have lc := h.lc
  have hz : ((((wr.alloc o).setCell ⟨Sb, m.1.length, none⟩ cv).alloc o').setCell ⟨Rb, m.2.1.length, none⟩ (.int .i64 k)).heap.size = wr.heap.size + 1 + 1 := by simp
  have hz2 := hb.size
  rw [hz] at hz2
  have hr6 := ((h.rf.alloc o).move fun cs hb => hb.set (b := Sb) (o := m.1.length) (v := cv) (Ne.symm hne)).alloc o'
  have hr6' := hr6
  obtain ⟨ci, hci, _⟩ := hr6'
  have hbl : Below w0.heap.size w0 ((((wr.alloc o).setCell ⟨Sb, m.1.length, none⟩ cv).alloc o').setCell ⟨Rb, m.2.1.length, none⟩ (.int .i64 k)) :=
    (((h.bl.alloc h.bl.size _).setCell ls _).alloc (by have := h.bl.size; simp; omega) _).setCell lr _
  refine ⟨?_, ?_, ha.ap _, hbl.trans (hb.mono (by have := h.bl.size; omega)), ls, lr, by omega, by omega, Nat.le_refl _⟩
  · refine ((((seg_push h o).alloc o').move fun cs hb => hb.set hne).below hb (by omega)).imp fun i v hi hp s hs => ?_
    have hr := hp s hs
    exact (hr.keep (B' := wr.heap.size + 1 + 1) (by omega) fun cs g hb' => (hb'.alloc o').set ((hb'.alloc o').ne hci (by decide))).below hb |>.more hz2
  · refine ((hr6.set (.int .i64 k)).below hb (by omega)).imp fun i v hi hp x hx => ?_
    have hx' : (m.2.1 ++ [k])[i]? = some x := hx
    by_cases ei : i = m.2.1.length
    · rw [hp.1 ei]
      rw [ei, List.getElem?_append_right (by omega), show m.2.1.length - m.2.1.length = 0 by omega] at hx'
      obtain rfl : k = x := by simpa using hx'
      rfl
    · have hil : i < m.2.1.length := by
        have := (List.getElem?_eq_some_iff.1 hx').1
        rw [List.length_append, List.length_singleton] at this; omega
      rw [List.getElem?_append_left hil] at hx'
      exact hp.2 ei x hx'
/-- What holds behind the loop and its last append. -/
structure Fin (w0 wr : World) (Sb Rb n : Nat) (m : List (List Int) × List Nat × List Int) : Prop where
  sg : Cl wr Sb 22 (n + 1) fun i v => ∀ s, (segs m)[i]? = some s → Row wr wr.heap.size v s
  rf : Cl wr Rb 2 n fun i v => ∀ x : Nat, m.2.1[i]? = some x → v = .int .i64 x
  bl : Below w0.heap.size w0 wr
theorem Mid.fin {w0 wr : World} {Sb Rb n Lc : Nat} {cv : Value} {m : List (List Int) × List Nat × List Int} (h : Mid w0 wr Sb Rb n Lc cv m) (hne : Sb ≠ Rb) (o : Obj) : Fin w0 ((wr.alloc o).setCell ⟨Sb, m.1.length, none⟩ cv) Sb Rb n m :=
  ⟨(seg_push h o).imp fun i v hi hp s hs => (hp s hs).more (by simp), (h.rf.alloc o).move fun cs hb => hb.set (Ne.symm hne), (h.bl.alloc h.bl.size _).setCell h.ls _⟩

end Go.Proofs.YtlmjnlijoodbiaaDoor
