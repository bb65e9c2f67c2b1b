/-
  InlinePrimitivesIntoTemplate on a template of strings and identifiers; no statement of its own.
-/
import Derived.Test.YtlmjnlijoodbiaaDoorRows
import Derived.WalkKit
import Derived.ProofKit
import Derived.OpenShut
import Derived.Test.YtlmjnlijoodbiaaDoorSlW
import Derived.Test.YtlmjnlijoodbiaaDoorIpC
import Derived.Test.YtlmjnlijoodbiaaDoorIpE
import Derived.Test.YtlmjnlijoodbiaaDoorIpA
import Derived.Test.YtlmjnlijoodbiaaDoorIpB
import Derived.Test.YtlmjnlijoodbiaaDoorIpR
import Derived.Test.YtlmjnlijoodbiaaDoorIpT
import Derived.Test.YtlmjnlijoodbiaaDoorIpS
import Derived.Test.YtlmjnlijoodbiaaDoorIpH
import Derived.Test.YtlmjnlijoodbiaaDoorIpM
import Derived.WalkLawsBesides
import Derived.WalkSpells
import Derived.Below
import Derived.Lib.Hide
import Derived.Outline
import Derived.OwnWalk
import Derived.LoopTactic
import Derived.RegionTactic
import Derived.Deep.RegionHeld3
import Derived.Deep.Cut
import Derived.Deep.RegionLaw
import Derived.Deep.QuietTactic
import Derived.BigQuiet
namespace Go.Proofs.YtlmjnlijoodbiaaDoor
open Go.ChangeShapes Go.WideShapes Go.ChangeAt Go.RowKit

set_option linter.unusedVariables false

/-- An identifier's node with the number x, in a block below B. -/
def IdNode (w : World) (B x : Nat) (d : Value) : Prop := ∃ g, g < B ∧ d = .iface 55 (ptr g) ∧ Bk w g 60 #[.int .u32 0, .int .u32 (x : Int), .bool false, .bool false, .bool false]
/-- What holds at the loop's head, behind k parts. -/
structure In (w wr : World) (P n Lc : Nat) (hv : Value) (m : List (List Int) × List Nat × List Int) : Prop where
  row : ∃ f, Rw wr P 54 n 5 f ∧ (∀ (j x : Nat), m.2.1[j]? = some x → IdNode wr w.heap.size x (f j 0) ∧ f j 1 = .int .i32 0 ∧ f j 2 = .string ⟨#[]⟩ ∧ f j 4 = .int .i32 0) ∧
    (∀ (j : Nat) (s : List Int), (segs m)[j + 1]? = some s → (j + 1 = m.2.1.length → Ap wr Lc (f j 3) s) ∧ (j + 1 < m.2.1.length → Row wr Lc (f j 3) s))
  hd0 : m.2.1 = [] → Ap wr Lc hv m.2.2
  hd1 : m.2.1 ≠ [] → ∀ s, (segs m)[0]? = some s → Row wr Lc hv s
  bl : Below w.heap.size w wr
  l1 : P < Lc
  l2 : w.heap.size ≤ P
  l3 : Lc ≤ wr.heap.size
theorem In.fm {w wr : World} {P n Lc : Nat} {hv : Value} {m : List (List Int) × List Nat × List Int} (h : In w wr P n Lc hv m) : ∃ a l c, hv = .slice a l c := by
  by_cases e : m.2.1 = []
  · obtain ⟨a, c, h1⟩ := (h.hd0 e).form; exact ⟨_, _, _, h1⟩
  · cases hs : (segs m)[0]? with
    | none =>
      exfalso
      have := List.getElem?_eq_none_iff.1 hs
      unfold segs at this
      simp at this
    | some s => obtain ⟨a, c, h1⟩ := (h.hd1 e s hs).form; exact ⟨_, _, _, h1⟩
theorem Bk.drew {w : World} {g : Nat} {t : TypeId} {cs : Array Value} (h : Bk w g t cs) : Bk w.drew g t cs := h
theorem In.str0 {w wr w5 w2 : World} {P n Lc : Nat} {hv v : Value} {m : List (List Int) × List Nat × List Int} {X : List Int} (h : In w wr P n Lc hv m) (hr : m.2.1 = []) (hl : m.1.length = m.2.1.length) (h5 : Below wr.heap.size wr w5) (hb : Below Lc w5 w2) (hap : Ap w2 Lc v (m.2.2 ++ X)) : In w w2 P n Lc v (m.1, m.2.1, m.2.2 ++ X) := by
  have hm1 : m.1 = [] := List.length_eq_zero_iff.1 (by rw [hl, hr]; rfl)
  obtain ⟨f, hrw, _, _⟩ := h.row
  have l1 := h.l1
  have l2 := h.l2
  have l3 := h.l3
  refine ⟨⟨f, (hrw.move fun cs hb' => hb'.later h5).move fun cs hb' => hb'.below hb l1, fun j x hj => ?_, fun j s hs => ?_⟩, fun _ => hap, fun hne => absurd hr hne, (h.bl.trans (h5.mono (by omega))).trans (hb.mono (by omega)), l1, l2, by have := h5.size; have := hb.size; omega⟩
  · rw [show (m.1, m.2.1, m.2.2 ++ X).2.1 = m.2.1 from rfl, hr] at hj; simp at hj
  · unfold segs at hs
    rw [show (m.1, m.2.1, m.2.2 ++ X).1 = m.1 from rfl, hm1] at hs; simp at hs
theorem Ap.later {w w' : World} {B : Nat} {v : Value} {us : List Int} (h : Ap w B v us) (hb : Below w.heap.size w w') : Ap w' B v us := by
  rcases h with ⟨g, h1, h2⟩ | h
  · exact .inl ⟨g, h1, h2.later hb⟩
  · refine .inr (h.kept (row := none) ⟨hb.os, hb.tape, hb.output, hb.size, fun k hk _ => hb.block k hk⟩ ?_)
    cases hv : v.ownBlock with
    | none => exact .inl rfl
    | some g => exact .inr (by simp)
theorem Ap.set {w : World} {B b o : Nat} {v u : Value} {us : List Int} {t : TypeId} {cb : Array Value} (h : Ap w B v us) (hb : Bk w b t cb) (ht : t ≠ 49) : Ap (w.setCell ⟨b, o, none⟩ u) B v us := by
  rcases h with ⟨g, h1, h2⟩ | h
  · exact .inl ⟨g, h1, h2.set (h2.ne hb (Ne.symm ht))⟩
  · exact .inr (h.kept (row := some b) ⟨rfl, rfl, rfl, by simp, fun k hk hn => Below.heap_setCell _ _ _ _ (fun e => hn (by rw [e]))⟩ (.inr (Ne.symm (own_ne16 h hb ht))))
theorem IdNode.keep {w w' : World} {B x : Nat} {d : Value} (h : IdNode w B x d) (hk : ∀ g t cs, g < B → Bk w g t cs → Bk w' g t cs) : IdNode w' B x d := by
  obtain ⟨g, h1, h2, h3⟩ := h; exact ⟨g, h1, h2, hk _ _ _ h1 h3⟩
theorem In.str1 {w wr w5 w2 : World} {P n Lc : Nat} {hv v : Value} {m : List (List Int) × List Nat × List Int} {X : List Int} (h : In w wr P n Lc hv m) (q : Nat) (hq : m.2.1.length = q + 1) (hl : m.1.length = m.2.1.length) (h5 : Below wr.heap.size wr w5) (hb : Below Lc w5 w2) (hqn : q < n) (hap : Ap w2 Lc v (m.2.2 ++ X)) :
    In w (w2.setCell ⟨P, q * 5 + 3, none⟩ v) P n Lc hv (m.1, m.2.1, m.2.2 ++ X) := by
  obtain ⟨f, hrw, hf1, hf2⟩ := h.row
  have l1 := h.l1
  have l2 := h.l2
  have l3 := h.l3
  have hr2 : Rw w2 P 54 n 5 f := (hrw.move fun cs hb' => hb'.later h5).move fun cs hb' => hb'.below hb l1
  have hr3 := hr2.set (i := q) (j := 3) hqn (by omega) v
  obtain ⟨arr, hbp, -, -⟩ := hr2
  have hrow : ∀ v' us, Row wr Lc v' us → Row (w2.setCell ⟨P, q * 5 + 3, none⟩ v) Lc v' us := fun v' us h' => ((h'.below (h5.mono l3)).below hb).set hbp (by decide)
  have hsg : ∀ i, i < q + 1 → (segs (m.1, m.2.1, m.2.2 ++ X))[i]? = (segs m)[i]? := fun i hi => by
    unfold segs
    rw [List.getElem?_append_left (by show i < m.1.length; omega), List.getElem?_append_left (by omega)]
  refine ⟨⟨_, hr3, fun j x hj => ?_, fun j s hs => ⟨fun e => ?_, fun e => ?_⟩⟩, fun hne => ?_, fun hne s hs => ?_, ?_, l1, l2, by have := h5.size; have := hb.size; simp; omega⟩
  · obtain ⟨b0, b1, b2, b4⟩ := hf1 j x hj
    refine ⟨?_, by simp [upd, b1], by simp [upd, b2], by simp [upd, b4]⟩
    have e0 : upd f q 3 v j 0 = f j 0 := by simp [upd]
    rw [e0]
    exact b0.keep fun g t cs hg hbk => ((hbk.later h5).below hb (by omega)).set (by omega)
  · have ej : j = q := by have e' : j + 1 = m.2.1.length := e; omega
    subst ej
    have e1 : upd f j 3 v j 3 = v := upd_same _ _ _ _
    rw [e1]
    have e2 : s = m.2.2 ++ X := by
      unfold segs at hs
      rw [List.getElem?_append_right (by show m.1.length ≤ j + 1; omega), show j + 1 - (m.1, m.2.1, m.2.2 ++ X).1.length = 0 by show j + 1 - m.1.length = 0; omega] at hs
      simpa using hs.symm
    rw [e2]; exact hap.set hbp (by decide)
  · have ej : j + 1 < q + 1 := by have e' : j + 1 < m.2.1.length := e; omega
    have e1 : upd f q 3 v j 3 = f j 3 := upd_other _ _ _ _ _ _ (by omega)
    rw [e1]
    rw [hsg _ ej] at hs
    exact hrow _ _ ((hf2 j s hs).2 (by omega))
  · exfalso
    have e' : m.2.1 = [] := hne
    rw [e'] at hq; simp at hq
  · rw [hsg 0 (by omega)] at hs
    exact hrow _ _ (h.hd1 hne s hs)
  · exact ((h.bl.trans (h5.mono (by omega))).trans (hb.mono (by omega))).setCell l2 _
theorem In.id {w wr w5 w9 : World} {P n Lc k : Nat} {hv d tvk : Value} {m : List (List Int) × List Nat × List Int} {Tk : List Int} (h : In w wr P n Lc hv m) (r : Nat) (hr : r = m.2.1.length) (hl : m.1.length = m.2.1.length) (hrn : r < n) (h5 : Below wr.heap.size wr w5) (box : Obj)
    (h9 : w9 = (w5.alloc box).setCells P (0 + r * 5) [d, .int .i32 0, .string ⟨#[]⟩, tvk, .int .i32 0]) (hd : IdNode wr w.heap.size k d) (ht : Ex w w.heap.size tvk Tk) :
    In w w9 P n w9.heap.size hv (m.1 ++ [m.2.2], m.2.1 ++ [k], Tk) ∧ (∀ g t cs, g ≠ P → Bk wr g t cs → Bk w9 g t cs) := by
  obtain ⟨f, hrw, hf1, hf2⟩ := h.row
  have l1 := h.l1
  have l2 := h.l2
  have l3 := h.l3
  have z5 := h5.size
  have hb6 : Below wr.heap.size wr (w5.alloc box) := h5.alloc z5 _
  have hr6 : Rw (w5.alloc box) P 54 n 5 f := hrw.move fun cs hb' => hb'.later hb6
  have e9 : w9 = ((((((w5.alloc box).setCell ⟨P, r * 5 + 0, none⟩ d).setCell ⟨P, r * 5 + 1, none⟩ (.int .i32 0)).setCell ⟨P, r * 5 + 2, none⟩ (.string ⟨#[]⟩)).setCell ⟨P, r * 5 + 3, none⟩ tvk).setCell ⟨P, r * 5 + 4, none⟩ (.int .i32 0)) := by rw [h9, Nat.zero_add]; rfl
  have hr9 : Rw w9 P 54 n 5 (upd (upd (upd (upd (upd f r 0 d) r 1 (.int .i32 0)) r 2 (.string ⟨#[]⟩)) r 3 tvk) r 4 (.int .i32 0)) := by
    rw [e9]
    exact ((((hr6.set hrn (by omega) _).set hrn (by omega) _).set hrn (by omega) _).set hrn (by omega) _).set hrn (by omega) _
  have hbl9 : Below P wr w9 := by
    have b6 : Below P wr (w5.alloc box) := hb6.mono (by omega)
    rw [e9]
    exact ((((b6.setCell (Nat.le_refl P) _).setCell (Nat.le_refl P) _).setCell (Nat.le_refl P) _).setCell (Nat.le_refl P) _).setCell (Nat.le_refl P) _
  have hkeep : ∀ g t cs, g ≠ P → Bk wr g t cs → Bk w9 g t cs := fun g t cs hne hb => by
    rw [e9]
    exact (((((hb.later hb6).set hne).set hne).set hne).set hne).set hne
  obtain ⟨arr, hbp, -, -⟩ := hrw
  have hsz := hbl9.size
  have hbl : Below w.heap.size w w9 := h.bl.trans (hbl9.mono l2)
  have hrow : ∀ v us, Row wr wr.heap.size v us → Row w9 w9.heap.size v us := fun v us hv' => by
    rcases hv' with hv' | ⟨g, c, cs, h1, h2, h3, h4⟩
    · exact .inl hv'
    · exact .inr ⟨g, c, cs, h1, hkeep _ _ _ (h2.ne hbp (by decide)) h2, by omega, h4⟩
  have hlen : (segs m).length = r + 1 := by unfold segs; rw [List.length_append, hl, ← hr]; rfl
  have hcur : (segs m)[r]? = some m.2.2 := by
    unfold segs
    rw [List.getElem?_append_right (by omega), show r - m.1.length = 0 by omega]; rfl
  have hsg : segs (m.1 ++ [m.2.2], m.2.1 ++ [k], Tk) = segs m ++ [Tk] := rfl
  refine ⟨⟨⟨_, hr9, fun j x hj => ?_, fun j s hs => ⟨fun e => ?_, fun e => ?_⟩⟩, fun hne => ?_, fun _ s hs => ?_, hbl, by omega, l2, Nat.le_refl _⟩, hkeep⟩
  · by_cases ej : j = r
    · subst ej
      have hx : x = k := by
        have hj' : (m.2.1 ++ [k])[j]? = some x := hj
        rw [List.getElem?_append_right (by omega), show j - m.2.1.length = 0 by omega] at hj'
        simpa using hj'.symm
      subst hx
      refine ⟨?_, by simp [upd], by simp [upd], by simp [upd]⟩
      have e0 : upd (upd (upd (upd (upd f j 0 d) j 1 (.int .i32 0)) j 2 (.string ⟨#[]⟩)) j 3 tvk) j 4 (.int .i32 0) j 0 = d := by simp [upd]
      rw [e0]
      exact hd.keep fun g t cs hg hb => hkeep _ _ _ (by omega) hb
    · have hj' : (m.2.1 ++ [k])[j]? = some x := hj
      have hjr : j < r := by
        have := (List.getElem?_eq_some_iff.1 hj').1
        rw [List.length_append, List.length_singleton] at this; omega
      rw [List.getElem?_append_left (by omega)] at hj'
      obtain ⟨b0, b1, b2, b4⟩ := hf1 j x hj'
      have eo : ∀ q, upd (upd (upd (upd (upd f r 0 d) r 1 (.int .i32 0)) r 2 (.string ⟨#[]⟩)) r 3 tvk) r 4 (.int .i32 0) j q = f j q := fun q => by simp [upd, ej]
      rw [eo, eo, eo, eo]
      exact ⟨b0.keep fun g t cs hg hb => hkeep _ _ _ (by omega) hb, b1, b2, b4⟩
  · have e' : j + 1 = (m.2.1 ++ [k]).length := e
    rw [List.length_append, List.length_singleton] at e'
    have ej : j = r := by omega
    subst ej
    have e3 : upd (upd (upd (upd (upd f j 0 d) j 1 (.int .i32 0)) j 2 (.string ⟨#[]⟩)) j 3 tvk) j 4 (.int .i32 0) j 3 = tvk := by simp [upd]
    rw [e3]
    rw [hsg, List.getElem?_append_right (by omega), show j + 1 - (segs m).length = 0 by omega] at hs
    have hs' : s = Tk := by simpa using hs.symm
    subst hs'
    exact (ht.below hbl).ap _
  · have e' : j + 1 < (m.2.1 ++ [k]).length := e
    rw [List.length_append, List.length_singleton] at e'
    have e3 : upd (upd (upd (upd (upd f r 0 d) r 1 (.int .i32 0)) r 2 (.string ⟨#[]⟩)) r 3 tvk) r 4 (.int .i32 0) j 3 = f j 3 := by simp [upd, show j ≠ r by omega]
    rw [e3]
    rw [hsg, List.getElem?_append_left (by omega)] at hs
    obtain ⟨c1, c2⟩ := hf2 j s hs
    by_cases el : j + 1 = m.2.1.length
    · exact hrow _ _ (c1 el).row
    · exact hrow _ _ ((c2 (by omega)).more l3)
  · exfalso
    have e' : m.2.1 ++ [k] = [] := hne
    simp at e'
  · rw [hsg, List.getElem?_append_left (by omega)] at hs
    by_cases e0 : m.2.1 = []
    · have er : r = 0 := by rw [hr, e0]; rfl
      subst er
      rw [hcur] at hs
      obtain rfl : m.2.2 = s := by simpa using hs
      exact hrow _ _ (h.hd0 e0).row
    · exact hrow _ _ ((h.hd1 e0 s hs).more l3)
/-- What the call answers. -/
def Inl (w : World) (n : Nat) (loc hl : Int) (m : List (List Int) × List Nat × List Int) (e : Ending) (w' : World) : Prop := Below w.heap.size w w' ∧
  ((m.2.1 = [] ∧ ∃ g v, e = .returned (.agg #[.iface 50 (ptr g), .int .i32 loc]) ∧ Bk w' g 52 #[v, .int .i32 0, .bool true, .bool false, .bool false] ∧ Row w' w'.heap.size v m.2.2) ∨
   (m.2.1 ≠ [] ∧ ∃ g P hv f, e = .returned (.agg #[.iface 30 (ptr g), .int .i32 loc]) ∧ Bk w' g 48 #[.nilIface, .int .i32 0, .string ⟨#[]⟩, hv, .slice (some ⟨P, 0, none⟩) m.2.1.length n, .int .i32 hl, .int .i32 0, .bool false, .bool false] ∧
     Rw w' P 54 n 5 f ∧ (∀ s, (segs m)[0]? = some s → Row w' w'.heap.size hv s) ∧ ∀ (j x : Nat), m.2.1[j]? = some x → IdNode w' w.heap.size x (f j 0) ∧ ∀ s, (segs m)[j + 1]? = some s → Row w' w'.heap.size (f j 3) s))
structure StopX (p : Prop) : Prop where
  out : p
theorem hold_at {P : Program} {ops : Array Oper} {Q : Exit → Act → World → Prop} {l : List Oper} {a : Act} {w : World} (h : StopX (wpList P ops Q l a w)) : wpList P ops Q l a w := h.out
theorem Rw.firsts {w : World} {K : Nat} {t : TypeId} {n s : Nat} {f : Nat → Nat → Value} (h : Rw w K t n s f) (r : Nat) (hr : r ≤ n) : ∃ olds : List Value, olds.length = r * s ∧ ∀ j u, olds[j]? = some u → w.cell? ⟨K, j, none⟩ = some u := by
  obtain ⟨arr, h1, h2, _⟩ := h
  have hle : r * s ≤ n * s := Nat.mul_le_mul_right s hr
  refine ⟨arr.toList.take (r * s), by rw [List.length_take, Array.length_toList, h2]; omega, fun j u hu => ?_⟩
  have hj : j < r * s := by
    have := (List.getElem?_eq_some_iff.1 hu).1
    rw [List.length_take] at this; omega
  rw [List.getElem?_take, if_pos hj] at hu
  rw [h1.cell, ← Array.getElem?_toList]; exact hu
theorem sumL_le (V T : Nat → List Int) : ∀ n k, k < n → sumL V T k + (V k).length + (T k).length ≤ sumL V T n := by
  intro n
  induction n with
  | zero => intro k hk; omega
  | succ n ih =>
    intro k hk
    rcases Nat.lt_or_ge k n with h | h
    · have := ih k h; simp only [sumL]; omega
    · obtain rfl : k = n := by omega
      simp only [sumL]; omega
set_option maxRecDepth 100000 in
set_option maxHeartbeats 4000000 in
theorem inline (w : World) (tb K n : Nat) (vh : Value) (hd : List Int) (isS : Nat → Bool) (vv tv : Nat → Value) (V T : Nat → List Int) (loc hl : Int) (B0 : Nat) (hn : n ≤ 4096) (hsum : hd.length + sumL V T n ≤ 1048576)
    (hb : Bk w tb 48 #[.nilIface, .int .i32 0, .string ⟨#[]⟩, vh, .slice (some ⟨K, 0, none⟩) n n, .int .i32 hl, .int .i32 0, .bool false, .bool false])
    (hp : PartsUp w B0 K n n isS vv tv) (hh : Ex w w.heap.size vh hd) (hV : ∀ i, i < n → Ex w w.heap.size (vv i) (V i)) (hT : ∀ i, i < n → Ex w w.heap.size (tv i) (T i)) :
    Calls Tryd.prog 9 #[.agg #[.int .i32 loc], ptr tb] w (Inl w n loc hl (Fs isS V T hd n)) := by
  obtain ⟨i0, gi, gz0, gz1, gz2⟩ := info_three info_tp
  have hmk := fun w : World => run_make (P := Tryd.prog) w 46 54 i0 (.agg zTp) Tryd.underlying46 gi gz0 .i64 .i64 0 n (by omega) (by omega) (by rw [gz2]; omega) (by omega)
  simp only [gz1, Int.toNat_natCast] at hmk
  have HB := Lib.hid hb
  have HP := Lib.hid hp
  have HH := Lib.hid hh
  have HV := Lib.hid hV
  have HT := Lib.hid hT
  have t0 : w.cell? ⟨tb, 0, none⟩ = some .nilIface := hb.cell 0
  have t3 : w.cell? ⟨tb, 3, none⟩ = some vh := hb.cell 3
  have t4 : w.cell? ⟨tb, 4, none⟩ = some (.slice (some ⟨K, 0, none⟩) n n) := hb.cell 4
  have ztb := hb.lt
  have ztb1 : tb < w.heap.size + 1 := by omega
  have ztb2 : tb < w.heap.size + 1 + 1 := by omega
  have ztb3 : tb < w.heap.size + 1 + 1 + 1 := by omega
  clear hb hp hh hV hT gi gz0 gz1 gz2
  go_enter Tryd.func9, Tryd.ntmps9
  go_wp2_with fail
  clear hmk t0 t3 t4
  go_loopw [5, 6, 41] (fun hv pv kv wr => ∃ (k Lc : Nat), k ≤ n ∧ kv = .int .i64 k ∧ pv = .slice (some ⟨w.heap.size + 1 + 1, 0, none⟩) (Fs isS V T hd k).2.1.length n ∧ Hid (In w wr (w.heap.size + 1 + 1) n Lc hv (Fs isS V T hd k) ∧ Bk wr w.heap.size 35 #[.int .i32 loc] ∧ Bk wr (w.heap.size + 1) 37 #[.nilIface, .int .i32 0])) (fun _ _ kv _ => n - (intOf kv).toNat)
  case atStart => as_aux_lemma =>
    have hb3 : Below w.heap.size w (((w.alloc (.cells #[.int .i32 loc] 35)).alloc (.cells #[.nilIface, .int .i32 0] 37)).alloc (.cells (madeCells zTp (n * 5)) 54)) := (((Below.refl _ _).alloc (Nat.le_refl _) _).alloc (by simp) _).alloc (by simp; omega) _
    refine ⟨0, w.heap.size + 1 + 1 + 1, by omega, rfl, rfl, ⟨⟨fun _ j => zTp[j]!, ?_, fun j x hj => ?_, fun j s hs => ?_⟩, fun _ => ?_, fun h => absurd rfl h, hb3, by omega, by omega, by simp⟩, ?_, ?_⟩
    · have hm := Rw.made ((w.alloc (.cells #[.int .i32 loc] 35)).alloc (.cells #[.nilIface, .int .i32 0] 37)) 54 n 5 zTp rfl (by omega)
      have hz : ((w.alloc (.cells #[.int .i32 loc] 35)).alloc (.cells #[.nilIface, .int .i32 0] 37)).heap.size = w.heap.size + 1 + 1 := by simp
      rw [hz] at hm; exact hm
    · simp [Fs] at hj
    · simp [segs, Fs] at hs
    · exact (HH.out.below hb3).ap _
    · exact ((Bk.new w _ _).alloc _).alloc _
    · exact (Bk.new' _ _ _ _ (by simp)).alloc _
  case round =>
    obtain ⟨k, Lc, hk, rfl, rfl, H⟩ := hrel
    by_cases hlt : k < n
    · have z0 := H.out.1.bl.size
      have l0 : (0 : Int) ≤ (k : Int) := by omega
      have l1 : (k : Int) < (n : Int) := by omega
      obtain ⟨f, hrw0, hf1, hf2⟩ := HP.out
      have zK0 := hrw0.lt
      have hrw := hrw0.move fun cs hb => hb.later H.out.1.bl
      obtain ⟨⟨g, hg1, hg2, hnode⟩, h3⟩ := hf2 k hlt
      obtain ⟨a1, a2, a4⟩ := hf1 k hlt
      have d0 := hrw.cell (i := k) (j := 0) hlt (by omega)
      have d1 := hrw.cell (i := k) (j := 1) hlt (by omega)
      have d2 := hrw.cell (i := k) (j := 2) hlt (by omega)
      have d3 := hrw.cell (i := k) (j := 3) hlt (by omega)
      have d4 := hrw.cell (i := k) (j := 4) hlt (by omega)
      rw [Nat.add_zero] at d0
      rw [a1] at d1
      rw [a2] at d2
      rw [h3] at d3
      rw [a4] at d4
      have zK := hrw.lt
      obtain ⟨at', ct, htv⟩ := (HT.out k hlt).row.form
      have HTV := Lib.hid htv
      rw [htv] at d3
      obtain ⟨ah, lh, ch, hhv⟩ := H.out.1.fm
      subst hhv
      clear hrw hrw0 hf1 hf2 htv h3 a1 a2 a4
      rcases hnode with ⟨hs, hd0, hbg⟩ | ⟨hs, hd0, hbg⟩
      · rw [hd0] at d0
        have HG := Lib.hid (hbg.later H.out.1.bl)
        have HS := Lib.hid hs
        clear hs hd0 hbg
        go_upto_region 8 with fail
        obtain ⟨w5, hw5⟩ : ∃ w5, w5 = wr.alloc (.cells #[.iface 50 (ptr g), .int .i32 0, .string ⟨#[]⟩, .slice at' (T k).length ct, .int .i32 0] 54) := ⟨_, rfl⟩
        rw [← hw5]
        have bq : Bk w5 wr.heap.size 54 #[.iface 50 (ptr g), .int .i32 0, .string ⟨#[]⟩, .slice at' (T k).length ct, .int .i32 0] := by rw [hw5]; exact Bk.new _ _ _
        have q0 : w5.cell? ⟨wr.heap.size, 0, none⟩ = some (.iface 50 (ptr g)) := bq.cell 0
        have zq := bq.lt
        have HQ := Lib.hid bq
        have B5 : Hid (Below wr.heap.size wr w5) := by rw [hw5]; exact Lib.hid ((Below.refl _ _).alloc (Nat.le_refl _) _)
        clear hw5 d0 d1 d2 d3 d4 bq
        go_wp2_with fail
        refine (no_text_str w5 g).mono ?_
        rintro e w6 ⟨rfl, rfl⟩
        obtain ⟨w5, rfl⟩ : ∃ x : World, x = w6 := ⟨_, rfl⟩
        by_cases hr : (Fs isS V T hd k).2.1 = []
        · have r0 : (((Fs isS V T hd k).2.1.length : Int) == 0) = true := by rw [hr]; rfl
          have z5 := B5.out.size
          have bw5 := Lib.hid (H.out.1.bl.trans (B5.out.mono z0))
          have HG5 := Lib.hid (HG.out.later B5.out)
          have HA1 := Lib.hid ((H.out.1.hd0 hr).later B5.out)
          have HR1 := Lib.hid ((HV.out k hlt).row.below bw5.out)
          have hbd := Fs.bound isS V T hd k
          have hsm := sumL_le V T n k hlt
          have HL1 := Lib.hid (show (Fs isS V T hd k).2.2.length + (V k).length ≤ 2097152 by omega)
          have HL2 := Lib.hid (show ((Fs isS V T hd k).2.2 ++ V k).length + (T k).length ≤ 2097152 by rw [List.length_append]; omega)
          have HB1 := Lib.hid (show Lc ≤ w5.heap.size by have := H.out.1.l3; omega)
          have HR2 : Hid (∀ w1, Below Lc w5.drew w1 → Row w1 w.heap.size (.slice at' (T k).length ct) (T k) ∧ Lc ≤ w1.heap.size) := Lib.hid fun w1 hb => ⟨by rw [← HTV.out]; exact ((HT.out k hlt).row.below bw5.out.drew).below (hb.mono (by have := H.out.1.l1; have := H.out.1.l2; omega)), by have h1 : w5.heap.size ≤ w1.heap.size := hb.size; have := HB1.out; omega⟩
          have KRx : Hid (∀ w1, Kp16 w5 w1 → w1.cell? ⟨g, 0, none⟩ = some (vv k) ∧ w1.cell? ⟨wr.heap.size, 3, none⟩ = some (.slice at' (T k).length ct)) := Lib.hid fun w1 hk => ⟨(hk _ _ _ (by decide) HG5.out).cell 0, (hk _ _ _ (by decide) HQ.out).cell 3⟩
          clear hbd hsm
          go_upto_region 17 with fail
          go_region_held3 (fun w' => w'.cell? ⟨g, 0, none⟩ = some (vv k) ∧ w'.cell? ⟨wr.heap.size, 3, none⟩ = some (.slice at' (T k).length ct)) (first | exact KRx.out _ (Kp16.refl _) | exact KRx.out _ hkp1 | exact KRx.out _ hkp2) (first
            | (refine step_append_ap (by rfl) _ _ (by rfl) Lc w.heap.size (.slice ah lh ch) (vv k) (Fs isS V T hd k).2.2 (V k) (by rfl) HA1.out (by rfl) HR1.out HL1.out HB1.out ?_; intro v1 w1 hap1 hbl1 hkp1)
            | (refine step_append_ap (by rfl) _ _ (by rfl) Lc w.heap.size v1 (.slice at' (T k).length ct) ((Fs isS V T hd k).2.2 ++ V k) (T k) (by rfl) hap1 (by rfl) (HR2.out _ hbl1).1 HL2.out (HR2.out _ hbl1).2 ?_; intro v2 w2 hap2 hbl2 hkp12; have hkp2 := Kp16.trans hkp1 hkp12))
          have AP2 := Lib.hid hap2
          have BL2 := Lib.hid (Below.trans hbl1 hbl2)
          have KP2 := Lib.hid hkp2
          obtain ⟨a2, c2, rfl⟩ := hap2.form
          clear hap1 hap2 hbl1 hbl2 hkp1 hkp2 hkp12
          go_wp2_with fail
          go_roundw
          case rel =>
            refine ⟨k + 1, Lc, by omega, by go_num, ?_, ?_, ?_, ?_⟩
            · rw [Fs.str HS.out, hr]; rfl
            · rw [Fs.str HS.out, List.append_assoc]
              have hin := In.str0 H.out.1 hr (Fs.len isS V T hd k).1 B5.out.drew BL2.out (X := V k ++ T k) (v := .slice a2 ((Fs isS V T hd k).2.2 ++ V k ++ T k).length c2) (by rw [← List.append_assoc]; exact AP2.out)
              rw [List.append_assoc] at hin
              exact hin
            · exact ((H.out.2.1.later B5.out).drew).below BL2.out (by have := H.out.1.l1; have := H.out.1.l2; omega)
            · exact ((H.out.2.2.later B5.out).drew).below BL2.out (by have := H.out.1.l1; have := H.out.1.l2; omega)
          case measure => simp [intOf]; omega
        · have r0 : (((Fs isS V T hd k).2.1.length : Int) == 0) = false := beq_eq_false_iff_ne.2 (by have := List.length_pos_iff.2 hr; omega)
          have z5 := B5.out.size
          have bw5 := Lib.hid (H.out.1.bl.trans (B5.out.mono z0))
          have HG5 := Lib.hid (HG.out.later B5.out)
          have hln := Fs.len isS V T hd k
          obtain ⟨q, hq⟩ : ∃ q, (Fs isS V T hd k).2.1.length = q + 1 := ⟨(Fs isS V T hd k).2.1.length - 1, by have := List.length_pos_iff.2 hr; omega⟩
          obtain ⟨ff, hrp, hfp, hfs⟩ := H.out.1.row
          have hseg : (segs (Fs isS V T hd k))[q + 1]? = some (Fs isS V T hd k).2.2 := by
            unfold segs
            rw [List.getElem?_append_right (by omega), show q + 1 - (Fs isS V T hd k).1.length = 0 by omega]; rfl
          have HA0 := (hfs q _ hseg).1 hq.symm
          obtain ⟨ap0, cp0, hfv⟩ := HA0.form
          have HA1 := Lib.hid (HA0.later B5.out)
          rw [hfv] at HA1
          have HR1 := Lib.hid ((HV.out k hlt).row.below bw5.out)
          have hbd := Fs.bound isS V T hd k
          have hsm := sumL_le V T n k hlt
          have HL1 := Lib.hid (show (Fs isS V T hd k).2.2.length + (V k).length ≤ 2097152 by omega)
          have HL2 := Lib.hid (show ((Fs isS V T hd k).2.2 ++ V k).length + (T k).length ≤ 2097152 by rw [List.length_append]; omega)
          have HB1 := Lib.hid (show Lc ≤ w5.heap.size by have := H.out.1.l3; omega)
          have HR2 : Hid (∀ w1, Below Lc w5.drew w1 → Row w1 w.heap.size (.slice at' (T k).length ct) (T k) ∧ Lc ≤ w1.heap.size) := Lib.hid fun w1 hb => ⟨by rw [← HTV.out]; exact ((HT.out k hlt).row.below bw5.out.drew).below (hb.mono (by have := H.out.1.l1; have := H.out.1.l2; omega)), by have h1 : w5.heap.size ≤ w1.heap.size := hb.size; have := HB1.out; omega⟩
          have hrp5 := hrp.move fun cs hb => hb.later B5.out
          have HRP5 := Lib.hid hrp5
          have KRx : Hid (∀ w1, Kp16 w5 w1 → w1.cell? ⟨g, 0, none⟩ = some (vv k) ∧ w1.cell? ⟨wr.heap.size, 3, none⟩ = some (.slice at' (T k).length ct) ∧ w1.cell? ⟨w.heap.size + 1 + 1, q * 5 + 3, none⟩ = some (.slice ap0 (Fs isS V T hd k).2.2.length cp0) ∧ w1.frozen? ⟨w.heap.size + 1 + 1, q * 5 + 3, none⟩ = false ∧ w.heap.size + 1 + 1 < w1.heap.size) := Lib.hid fun w1 hk =>
            ⟨(hk _ _ _ (by decide) HG5.out).cell 0, (hk _ _ _ (by decide) HQ.out).cell 3, by rw [(HRP5.out.move fun cs hb => hk _ _ _ (by decide) hb).cell (by omega) (by omega), hfv], (HRP5.out.move fun cs hb => hk _ _ _ (by decide) hb).frozen _, (HRP5.out.move fun cs hb => hk _ _ _ (by decide) hb).lt⟩
          obtain ⟨k1, k2, k3, k4, k5⟩ := KRx.out w5 (Kp16.refl _)
          have w1' : wrap64 (((q + 1 : Nat) : Int) - 1) = (q : Int) := by unfold wrap64; omega
          have w2' : IntKind.i64.wrap (((q + 1 : Nat) : Int) - 1) = (q : Int) := by rw [IntWalk.i64_in _ (by omega)]; omega
          have q0' : (0 : Int) ≤ (q : Int) := by omega
          obtain ⟨r, hrr⟩ : ∃ r : Nat, r = q + 1 := ⟨_, rfl⟩
          have q1' : (q : Int) < (r : Int) := by omega
          rw [← hrr] at w1' w2' hq
          have HQR := Lib.hid hq
          rw [hq] at r0
          rw [hq]
          have HRR := Lib.hid hrr
          clear hbd hsm hrp hfp hfs hseg HA0 hfv hrp5 hln hrr hq hr
          go_upto_region 18 with fail
          go_upto_region 19 with fail
          go_region_law (first
            | (refine step_append_ap (by rfl) _ _ (by rfl) Lc w.heap.size (.slice ap0 (Fs isS V T hd k).2.2.length cp0) (vv k) (Fs isS V T hd k).2.2 (V k) (by rfl) HA1.out (by rfl) HR1.out HL1.out HB1.out ?_; intro v1 w1 hap1 hbl1 hkp1; obtain ⟨j1, j2, j3, j4, j5⟩ := KRx.out _ hkp1)
            | (refine step_append_ap (by rfl) _ _ (by rfl) Lc w.heap.size v1 (.slice at' (T k).length ct) ((Fs isS V T hd k).2.2 ++ V k) (T k) (by rfl) hap1 (by rfl) (HR2.out _ hbl1).1 HL2.out (HR2.out _ hbl1).2 ?_; intro v2 w2 hap2 hbl2 hkp12; have hkp2 := Kp16.trans hkp1 hkp12; obtain ⟨a2, c2, rfl⟩ := hap2.form; obtain ⟨m1, m2, m3, m4, m5⟩ := KRx.out _ hkp2))
          all_goals
            have AP2 := Lib.hid hap2
            have BL2 := Lib.hid (Below.trans hbl1 hbl2)
            clear hap1 hap2 hbl1 hbl2 hkp1 hkp2 hkp12 m1 m2 m3 m4 j1 j2 j3 j4
            go_wp2_with fail
            go_roundw
            case rel =>
              refine ⟨k + 1, Lc, by omega, by go_num, ?_, ?_, ?_, ?_⟩
              · rw [Fs.str HS.out, HQR.out]
              · rw [Fs.str HS.out]
                have hin := In.str1 H.out.1 q (by rw [HQR.out, HRR.out]) (Fs.len isS V T hd k).1 B5.out.drew BL2.out (by have := (Fs.len isS V T hd k).2; have := HQR.out; have := HRR.out; omega) (X := V k ++ T k) (v := .slice a2 ((Fs isS V T hd k).2.2 ++ V k ++ T k).length c2) (by rw [← List.append_assoc]; exact AP2.out)
                simpa only [List.append_assoc, List.length_append] using hin
              · exact (((H.out.2.1.later B5.out).drew).below BL2.out (by have := H.out.1.l1; have := H.out.1.l2; omega)).set (by omega)
              · exact (((H.out.2.2.later B5.out).drew).below BL2.out (by have := H.out.1.l1; have := H.out.1.l2; omega)).set (by omega)
            case measure => simp [intOf]; omega
      · rw [hd0] at d0
        have HG := Lib.hid (hbg.later H.out.1.bl)
        have HS := Lib.hid hs
        clear hs hd0 hbg
        go_upto_region 8 with fail
        obtain ⟨w5, hw5⟩ : ∃ w5, w5 = wr.alloc (.cells #[.iface 55 (ptr g), .int .i32 0, .string ⟨#[]⟩, .slice at' (T k).length ct, .int .i32 0] 54) := ⟨_, rfl⟩
        rw [← hw5]
        have bq : Bk w5 wr.heap.size 54 #[.iface 55 (ptr g), .int .i32 0, .string ⟨#[]⟩, .slice at' (T k).length ct, .int .i32 0] := by rw [hw5]; exact Bk.new _ _ _
        have q0 : w5.cell? ⟨wr.heap.size, 0, none⟩ = some (.iface 55 (ptr g)) := bq.cell 0
        have q1 : w5.cell? ⟨wr.heap.size, 1, none⟩ = some (.int .i32 0) := bq.cell 1
        have q2 : w5.cell? ⟨wr.heap.size, 2, none⟩ = some (.string ⟨#[]⟩) := bq.cell 2
        have q3 : w5.cell? ⟨wr.heap.size, 3, none⟩ = some (.slice at' (T k).length ct) := bq.cell 3
        have q4 : w5.cell? ⟨wr.heap.size, 4, none⟩ = some (.int .i32 0) := bq.cell 4
        have zq := bq.lt
        have HQ := Lib.hid bq
        have B5 : Hid (Below wr.heap.size wr w5) := by rw [hw5]; exact Lib.hid ((Below.refl _ _).alloc (Nat.le_refl _) _)
        clear hw5 d0 d1 d2 d3 d4 bq
        go_wp2_with fail
        refine (no_text_id w5 g).mono ?_
        rintro e w6 ⟨rfl, rfl⟩
        obtain ⟨w5, rfl⟩ : ∃ x : World, x = w6 := ⟨_, rfl⟩
        have z5 := B5.out.size
        obtain ⟨j0, yi, yz0, yz1, yz2⟩ := info_three info_tp
        have hln := Fs.len isS V T hd k
        obtain ⟨r, hr⟩ : ∃ r, r = (Fs isS V T hd k).2.1.length := ⟨_, rfl⟩
        have hrk : r ≤ k := by omega
        have HRL := Lib.hid hr
        rw [← hr]
        obtain ⟨ff, hrp, hfp, hfs⟩ := H.out.1.row
        have hrp5 := (hrp.move fun cs hb => hb.later B5.out).move fun cs hb => hb.alloc (.cells #[.iface 55 (ptr g), .int .i32 0, .string ⟨#[]⟩, .slice at' (T k).length ct, .int .i32 0] 54)
        have HRP := Lib.hid hrp5
        obtain ⟨olds, holen, holds⟩ := Rw.firsts hrp5 r (by omega)
        have HOL := Lib.hid holds
        clear hln hr hrp hfp hfs hrp5 holds
        go_upto_region 20 with fail
        go_wp2_with (at_builtin; refine hold_at ?_)
        refine ⟨?_⟩
        refine wpList_append_arg _ rfl _ _ 46 rfl 54 j0 (.agg zTp) 5 72 Tryd.underlying46 yi yz0 yz1 yz2 rfl (by decide) (w.heap.size + 1 + 1) 0 r n olds rfl holen (fun j u hu => by rw [Nat.zero_add]; exact HOL.out j u hu) ⟨w5.heap.size, 0, none⟩ 1 1 [.iface 55 (ptr g), .int .i32 0, .string ⟨#[]⟩, .slice at' (T k).length ct, .int .i32 0] rfl rfl ?sc1 ?sc2 ?sc3 ?sc4 ?sc5 ?sc6 ?sc7
        case sc1 =>
          intro j u hu
          have e1 : (⟨w5.heap.size, 0, none⟩ : Addr).add j = ⟨w5.heap.size, j, none⟩ := by unfold Addr.add; split <;> simp_all
          rw [e1, (Bk.new w5 54 #[.iface 55 (ptr g), .int .i32 0, .string ⟨#[]⟩, .slice at' (T k).length ct, .int .i32 0]).cell]
          rw [← Array.getElem?_toList]; exact hu
        case sc2 =>
          intro u hu
          simp only [List.mem_cons, List.not_mem_nil, or_false] at hu
          rcases hu with rfl | rfl | rfl | rfl | rfl <;> rfl
        case sc3 =>
          intro hroom j hj
          have hj5 : j < 5 := hj
          exact ⟨by rw [Nat.zero_add, HRP.out.cell (i := r) (j := j) (by omega) hj5]; rfl, HRP.out.frozen _⟩
        case sc4 => unfold maxLen; omega
        case sc5 => omega
        case sc7 => exact fun hgr => by omega
        case sc6 =>
          intro hroom
          obtain ⟨w9, hw9⟩ : ∃ w9, w9 = (w5.alloc (.cells #[.iface 55 (ptr g), .int .i32 0, .string ⟨#[]⟩, .slice at' (T k).length ct, .int .i32 0] 54)).setCells (w.heap.size + 1 + 1) (0 + r * 5) [.iface 55 (ptr g), .int .i32 0, .string ⟨#[]⟩, .slice at' (T k).length ct, .int .i32 0] := ⟨_, rfl⟩
          rw [← hw9]
          have HW9 := Lib.hid hw9
          clear hw9
          go_wp2_with fail
          go_roundw
          case rel =>
            refine ⟨k + 1, w9.heap.size, by omega, by go_num, ?_, ?_⟩
            · rw [Fs.id HS.out, List.length_append, ← HRL.out]; rfl
            · have hln := Fs.len isS V T hd k
              have hid := In.id H.out.1 r HRL.out hln.1 (by omega) B5.out _ HW9.out ⟨g, hg2, rfl, HG.out⟩ (by rw [← HTV.out]; exact HT.out k hlt)
              have ea := H.out.1.l2
              refine ⟨by rw [Fs.id HS.out]; exact hid.1, hid.2 _ _ _ (by omega) H.out.2.1, hid.2 _ _ _ (by omega) H.out.2.2⟩
          case measure => simp [intOf]; omega
    · obtain rfl : k = n := by omega
      have z0 := H.out.1.bl.size
      obtain ⟨ah, lh, ch, hhv⟩ := H.out.1.fm
      subst hhv
      have B1 := HB.out.later H.out.1.bl
      have t5 : wr.cell? ⟨tb, 5, none⟩ = some (.int .i32 hl) := B1.cell 5
      have C1 := H.out.2.1
      have C2 := H.out.2.2
      have x0 : wr.cell? ⟨w.heap.size, 0, none⟩ = some (.int .i32 loc) := C1.cell 0
      have y0 : wr.cell? ⟨w.heap.size + 1, 0, none⟩ = some .nilIface := C2.cell 0
      have y1 : wr.cell? ⟨w.heap.size + 1, 1, none⟩ = some (.int .i32 0) := C2.cell 1
      have fy0 := C2.frozen 0
      have fy1 := C2.frozen 1
      have zA := C1.lt
      have zB := C2.lt
      have zA1 : w.heap.size < wr.heap.size + 1 := by omega
      have zB1 : w.heap.size + 1 < wr.heap.size + 1 := by omega
      have zT1 : tb < wr.heap.size := by omega
      have nAB : (w.heap.size = w.heap.size + 1) = False := eq_false (by omega)
      have nBA : (w.heap.size + 1 = w.heap.size) = False := eq_false (by omega)
      clear B1 C1 C2
      by_cases hr : (Fs isS V T hd k).2.1 = []
      · have r0 : (((Fs isS V T hd k).2.1.length : Int) == 0) = true := by rw [hr]; rfl
        have AP := Lib.hid (H.out.1.hd0 hr).row
        have NE := Lib.hid hr
        clear hr
        go_wp2_with fail
        have hbk : Bk (((wr.setCell ⟨w.heap.size + 1, 0, none⟩ (.iface 50 (ptr wr.heap.size))).setCell ⟨w.heap.size + 1, 1, none⟩ (.int .i32 loc)).alloc (.cells #[.slice ah lh ch, .int .i32 0, .bool true, .bool false, .bool false] 52)) (w.heap.size + 1) 37 #[.iface 50 (ptr wr.heap.size), .int .i32 loc] := H.out.2.2.setSelf.setSelf.alloc _
        refine bodyPost_ret (results_cell_row rfl _ _ (w.heap.size + 1) 37 #[.iface 50 (ptr wr.heap.size), .int .i32 loc] (0, 0) _ rfl hbk Tryd.underlying37 rfl (by kernel_rfl)) rfl ?_
        have z9 : ((wr.setCell ⟨w.heap.size + 1, 0, none⟩ (.iface 50 (ptr wr.heap.size))).setCell ⟨w.heap.size + 1, 1, none⟩ (.int .i32 loc)).heap.size = wr.heap.size := by simp
        refine ⟨((H.out.1.bl.setCell (by show w.heap.size ≤ w.heap.size + 1; omega) _).setCell (by show w.heap.size ≤ w.heap.size + 1; omega) _).alloc (by rw [z9]; exact z0) _, .inl ⟨NE.out, wr.heap.size, .slice ah lh ch, rfl, Bk.new' _ _ _ _ z9.symm, ?_⟩⟩
        exact ((((AP.out.set H.out.2.2 (by decide)).set H.out.2.2.setSelf (by decide)).alloc _).more (by simp))
      · have r0 : (((Fs isS V T hd k).2.1.length : Int) == 0) = false := beq_eq_false_iff_ne.2 (by have := List.length_pos_iff.2 hr; omega)
        have NE := Lib.hid hr
        clear hr
        go_wp2_with fail
        go_region
        all_goals
          go_wp2_with fail
          have hbk : Bk (((wr.setCell ⟨w.heap.size + 1, 0, none⟩ (.iface 30 (ptr wr.heap.size))).setCell ⟨w.heap.size + 1, 1, none⟩ (.int .i32 loc)).alloc (.cells #[.nilIface, .int .i32 0, .string ⟨#[]⟩, .slice ah lh ch, .slice (some ⟨w.heap.size + 1 + 1, 0, none⟩) (Fs isS V T hd k).2.1.length k, .int .i32 hl, .int .i32 0, .bool false, .bool false] 48)).drew (w.heap.size + 1) 37 #[.iface 30 (ptr wr.heap.size), .int .i32 loc] := (H.out.2.2.setSelf.setSelf.alloc _).drew
          refine bodyPost_ret (results_cell_row rfl _ _ (w.heap.size + 1) 37 #[.iface 30 (ptr wr.heap.size), .int .i32 loc] (0, 0) _ rfl hbk Tryd.underlying37 rfl (by kernel_rfl)) rfl ?_
          have z9 : ((wr.setCell ⟨w.heap.size + 1, 0, none⟩ (.iface 30 (ptr wr.heap.size))).setCell ⟨w.heap.size + 1, 1, none⟩ (.int .i32 loc)).heap.size = wr.heap.size := by simp
          have l1 := H.out.1.l1
          have l2 := H.out.1.l2
          have l3 := H.out.1.l3
          have hkeep : ∀ g t cs, g ≠ w.heap.size + 1 → Bk wr g t cs → Bk (((wr.setCell ⟨w.heap.size + 1, 0, none⟩ (.iface 30 (ptr wr.heap.size))).setCell ⟨w.heap.size + 1, 1, none⟩ (.int .i32 loc)).alloc (.cells #[.nilIface, .int .i32 0, .string ⟨#[]⟩, .slice ah lh ch, .slice (some ⟨w.heap.size + 1 + 1, 0, none⟩) (Fs isS V T hd k).2.1.length k, .int .i32 hl, .int .i32 0, .bool false, .bool false] 48)).drew g t cs := fun g t cs hne hb => ((hb.set hne).set hne).alloc _
          have hrow : ∀ v us, Row wr wr.heap.size v us → Row (((wr.setCell ⟨w.heap.size + 1, 0, none⟩ (.iface 30 (ptr wr.heap.size))).setCell ⟨w.heap.size + 1, 1, none⟩ (.int .i32 loc)).alloc (.cells #[.nilIface, .int .i32 0, .string ⟨#[]⟩, .slice ah lh ch, .slice (some ⟨w.heap.size + 1 + 1, 0, none⟩) (Fs isS V T hd k).2.1.length k, .int .i32 hl, .int .i32 0, .bool false, .bool false] 48)).drew (wr.heap.size + 1) v us := fun v us hv => by
            rcases hv with hv | ⟨g, c, cs, h1, h2, h3, h4⟩
            · exact .inl hv
            · exact .inr ⟨g, c, cs, h1, hkeep _ _ _ (h2.ne H.out.2.2 (by decide)) h2, by omega, h4⟩
          have zz : (((wr.setCell ⟨w.heap.size + 1, 0, none⟩ (.iface 30 (ptr wr.heap.size))).setCell ⟨w.heap.size + 1, 1, none⟩ (.int .i32 loc)).alloc (.cells #[.nilIface, .int .i32 0, .string ⟨#[]⟩, .slice ah lh ch, .slice (some ⟨w.heap.size + 1 + 1, 0, none⟩) (Fs isS V T hd k).2.1.length k, .int .i32 hl, .int .i32 0, .bool false, .bool false] 48)).drew.heap.size = wr.heap.size + 1 := by show (_ : World).heap.size = _; simp
          obtain ⟨f, hrw, hf1, hf2⟩ := H.out.1.row
          have hln := Fs.len isS V T hd k
          refine ⟨(((H.out.1.bl.setCell (by show w.heap.size ≤ w.heap.size + 1; omega) _).setCell (by show w.heap.size ≤ w.heap.size + 1; omega) _).alloc (by rw [z9]; exact z0) _).drew, .inr ⟨NE.out, wr.heap.size, w.heap.size + 1 + 1, .slice ah lh ch, f, rfl, (Bk.new' _ _ _ _ z9.symm).drew, hrw.move fun cs hb => hkeep _ _ _ (by omega) hb, fun s hs => ?_, fun j x hj => ⟨(hf1 j x hj).1.keep fun g t cs hg hb => hkeep _ _ _ (by omega) hb, fun s hs => ?_⟩⟩⟩
          · rw [zz]; exact hrow _ _ ((H.out.1.hd1 NE.out s hs).more l3)
          · rw [zz]
            have hjl := (List.getElem?_eq_some_iff.1 hj).1
            obtain ⟨c1, c2⟩ := hf2 j s hs
            by_cases el : j + 1 = (Fs isS V T hd k).2.1.length
            · exact hrow _ _ (c1 el).row
            · exact hrow _ _ ((c2 (by omega)).more l3)

end Go.Proofs.YtlmjnlijoodbiaaDoor
