/-
  What the law's callback has collected, and the callback, walked; no statement of its own.
-/
import Derived.Test.YtbmmmgccmkompacRows
import Derived.WalkKit
import Derived.ProofKit
import Derived.OpenShut
import Derived.Test.YtbmmmgccmkompacSlW
import Derived.WalkLawsBesides
import Derived.WalkSpells
import Derived.Below
import Derived.Lib.Hide
import Derived.Outline
import Derived.OwnWalk
import Derived.Laws.OwnMore
import Derived.Maps.AppendAt
import Derived.RegionTactic
import Derived.StillTailTactics
import Derived.Deep.RegionLaw
import Derived.Deep.AppendLies
namespace Go.Proofs.Ytbmmmgccmkompac
open Go.ChangeShapes Go.WideShapes Go.ChangeAt Go.RowKit

set_option linter.unusedVariables false

theorem ta_ptr {P : Program} (t s T e : TypeId) (v : Value) (w : World) (hu : P.underlying T = some (.pointer e)) (hz : (zeroValue T).run P w = .ok (.pointer none) w) :
    (Instr.typeAssert (.iface t v) s T true).run P w = .ok (if t = T then .tuple #[v, .bool true] else .tuple #[.pointer none, .bool false]) w := by
  by_cases h : t = T <;> simp [Instr.typeAssert, run_underlying hu, hz, h]
theorem ta_nil {P : Program} (s T e : TypeId) (w : World) (hu : P.underlying T = some (.pointer e)) (hz : (zeroValue T).run P w = .ok (.pointer none) w) :
    (Instr.typeAssert .nilIface s T true).run P w = .ok (.tuple #[.pointer none, .bool false]) w := by
  simp [Instr.typeAssert, run_underlying hu, hz]
theorem ta32 (t : TypeId) (v : Value) (s : TypeId) (w : World) : (Instr.typeAssert (.iface t v) s 32 true).run Try.prog w = .ok (if t = 32 then .tuple #[v, .bool true] else .tuple #[.pointer none, .bool false]) w := ta_ptr t s 32 _ v w Try.underlying32 (by kernel_rfl)
theorem tn32 (s : TypeId) (w : World) : (Instr.typeAssert .nilIface s 32 true).run Try.prog w = .ok (.tuple #[.pointer none, .bool false]) w := ta_nil s 32 _ w Try.underlying32 (by kernel_rfl)
theorem ta52 (t : TypeId) (v : Value) (s : TypeId) (w : World) : (Instr.typeAssert (.iface t v) s 52 true).run Try.prog w = .ok (if t = 52 then .tuple #[v, .bool true] else .tuple #[.pointer none, .bool false]) w := ta_ptr t s 52 _ v w Try.underlying52 (by kernel_rfl)
theorem tn52 (s : TypeId) (w : World) : (Instr.typeAssert .nilIface s 52 true).run Try.prog w = .ok (.tuple #[.pointer none, .bool false]) w := ta_nil s 52 _ w Try.underlying52 (by kernel_rfl)
theorem ta59 (t : TypeId) (v : Value) (s : TypeId) (w : World) : (Instr.typeAssert (.iface t v) s 59 true).run Try.prog w = .ok (if t = 59 then .tuple #[v, .bool true] else .tuple #[.pointer none, .bool false]) w := ta_ptr t s 59 _ v w Try.underlying59 (by kernel_rfl)
theorem tn59 (s : TypeId) (w : World) : (Instr.typeAssert .nilIface s 59 true).run Try.prog w = .ok (.tuple #[.pointer none, .bool false]) w := ta_nil s 59 _ w Try.underlying59 (by kernel_rfl)
theorem ta65 (t : TypeId) (v : Value) (s : TypeId) (w : World) : (Instr.typeAssert (.iface t v) s 65 true).run Try.prog w = .ok (if t = 65 then .tuple #[v, .bool true] else .tuple #[.pointer none, .bool false]) w := ta_ptr t s 65 _ v w Try.underlying65 (by kernel_rfl)
theorem tn65 (s : TypeId) (w : World) : (Instr.typeAssert .nilIface s 65 true).run Try.prog w = .ok (.tuple #[.pointer none, .bool false]) w := ta_nil s 65 _ w Try.underlying65 (by kernel_rfl)
attribute [go_sem] ta32 tn32 ta52 tn52 ta59 tn59 ta65 tn65
/-- Block g holds the cells cs, of element type t. -/
def Bk (w : World) (g : Nat) (t : TypeId) (cs : Array Value) : Prop := w.heap[g]? = some (.cells cs t (0, 0))
theorem Bk.lt {w : World} {g : Nat} {t : TypeId} {cs : Array Value} (h : Bk w g t cs) : g < w.heap.size := by
  rcases Nat.lt_or_ge g w.heap.size with hlt | hge
  · exact hlt
  · unfold Bk at h; rw [Array.getElem?_eq_none hge] at h; cases h
theorem Bk.cell {w : World} {g : Nat} {t : TypeId} {cs : Array Value} (h : Bk w g t cs) (i : Nat) : w.cell? ⟨g, i, none⟩ = cs[i]? := by
  unfold Bk at h; simp [World.cell?, h]
theorem Bk.frozen {w : World} {g : Nat} {t : TypeId} {cs : Array Value} (h : Bk w g t cs) (i : Nat) : w.frozen? ⟨g, i, none⟩ = false := by
  unfold Bk at h; simp [World.frozen?, h]
theorem Bk.below {w w' : World} {B g : Nat} {t : TypeId} {cs : Array Value} (h : Bk w g t cs) (hb : Below B w w') (hg : g < B) : Bk w' g t cs := (hb.block g hg).trans h
theorem Bk.later {w w' : World} {g : Nat} {t : TypeId} {cs : Array Value} (h : Bk w g t cs) (hb : Below w.heap.size w w') : Bk w' g t cs := h.below hb h.lt
theorem Bk.ne {w : World} {g g' : Nat} {t t' : TypeId} {cs cs' : Array Value} (h : Bk w g t cs) (h' : Bk w g' t' cs') (hne : t ≠ t') : g ≠ g' := by
  rintro rfl
  unfold Bk at h h'
  rw [h] at h'
  injection h' with h'
  injection h' with _ ht
  exact hne ht
theorem Bk.new (w : World) (t : TypeId) (cs : Array Value) : Bk (w.alloc (.cells cs t)) w.heap.size t cs := by unfold Bk; show (w.heap.push _)[_]? = _; simp
theorem Bk.new' (w : World) (n : Nat) (t : TypeId) (cs : Array Value) (hn : n = w.heap.size) : Bk (w.alloc (.cells cs t)) n t cs := hn ▸ Bk.new w t cs
theorem Bk.setSelf {w : World} {g o : Nat} {t : TypeId} {cs : Array Value} {v : Value} (h : Bk w g t cs) : Bk (w.setCell ⟨g, o, none⟩ v) g t (cs.setIfInBounds o v) := by
  unfold Bk at *; simp [World.setCell, Array.getElem?_modify, h]
theorem Bk.set {w : World} {g b o : Nat} {t : TypeId} {cs : Array Value} {v : Value} (h : Bk w g t cs) (hn : g ≠ b) : Bk (w.setCell ⟨b, o, none⟩ v) g t cs := by
  unfold Bk at *; rw [Below.heap_setCell _ _ _ _ hn]; exact h
theorem Bk.alloc {w : World} {g : Nat} {t : TypeId} {cs : Array Value} (h : Bk w g t cs) (o : Obj) : Bk (w.alloc o) g t cs := h.later ((Below.refl _ _).alloc (Nat.le_refl _) _)
theorem Bk.drew {w : World} {g : Nat} {t : TypeId} {cs : Array Value} (h : Bk w g t cs) : Bk w.drew g t cs := h
theorem Bk.grown {w w' : World} {g : Nat} {t : TypeId} {cs : Array Value} {row : Option Nat} (h : Bk w g t cs) (hg : w.grownBy w' row) (hn : some g ≠ row) : Bk w' g t cs := (hg.block g h.lt hn).trans h
/-- The row's block is none of an element of another type. -/
theorem own_ne {w : World} {B g n : Nat} {e t : TypeId} {v : Value} {xs : List Value} {cs : Array Value} {size : Nat} (h : w.ownsRow B e size v n xs) (hb : Bk w g t cs) (hne : t ≠ e) : some g ≠ v.ownBlock := by
  rcases h.2 with ⟨rfl, _⟩ | ⟨g', cap, cur, rfl, _, hg, _⟩
  · simp [Value.ownBlock]
  · intro hh
    simp [Value.ownBlock] at hh
    subst hh
    unfold Bk at hb; rw [hg] at hb; injection hb with hb; injection hb with _ hb; exact hne hb.symm
theorem own_own {w : World} {B n n' : Nat} {e e' : TypeId} {v v' : Value} {xs xs' : List Value} {size size' : Nat} (h : w.ownsRow B e size v n xs) (h' : w.ownsRow B e' size' v' n' xs') (hne : e ≠ e') : v'.ownBlock = none ∨ v'.ownBlock ≠ v.ownBlock := by
  rcases h'.2 with ⟨rfl, _⟩ | ⟨g', cap, cur, rfl, _, hg, _⟩
  · left; rfl
  · right
    exact own_ne (t := e') h hg (Ne.symm hne)
theorem own_form {w : World} {B n : Nat} {e : TypeId} {v : Value} {xs : List Value} {size : Nat} (h : w.ownsRow B e size v n xs) (hn : 0 < n) : ∃ g cap, v = .slice (some ⟨g, 0, none⟩) n cap := by
  rcases h.2 with ⟨_, h0⟩ | ⟨g', cap, cur, h1, _⟩
  · omega
  · exact ⟨g', cap, h1⟩
theorem own_set {w : World} {B n b o : Nat} {e : TypeId} {v u : Value} {xs : List Value} {size : Nat} (h : w.ownsRow B e size v n xs) (hne : some b ≠ v.ownBlock) : (w.setCell ⟨b, o, none⟩ u).ownsRow B e size v n xs :=
  h.kept (row := some b) ⟨rfl, rfl, rfl, by simp, fun k hk hn => Below.heap_setCell _ _ _ _ (fun e => hn (by rw [e]))⟩ (.inr (Ne.symm hne))
theorem info_i32 : (Try.prog.info? 21).map (fun i => (i.zero, i.size, i.bytes)) = some (some (.int .i32 0), 1, 4) := by kernel_rfl
theorem info_u32 : (Try.prog.info? 33).map (fun i => (i.zero, i.size, i.bytes)) = some (some (.int .u32 0), 1, 4) := by kernel_rfl
/-- What has been collected: the positions cs. -/
def St (B L R : Nat) (cs : List Nat) (w : World) : Prop := ∃ v u, Bk w L 27 #[v] ∧ Bk w R 28 #[u] ∧ w.ownsRow B 21 1 v cs.length (cs.map fun p : Nat => Value.int .i32 (p : Int)) ∧ w.ownsRow B 33 1 u cs.length (cs.map fun p : Nat => Value.int .u32 (p : Int)) ∧ B ≤ L ∧ B ≤ R ∧ B ≤ w.heap.size
def Col (B L R : Nat) (cs : List Nat) (w : World) (e : Ending) (w' : World) : Prop := e = .returned (.tuple #[]) ∧ St B L R cs w' ∧ Below B w w'
set_option maxRecDepth 100000 in
set_option maxHeartbeats 2000000 in
theorem call_back (B L R p q : Nat) (cs : List Nat) (w : World) (hs : St B L R cs w) (hp : Bk w q 37 #[.int .u32 0, .int .u32 (p : Int)]) (hl : cs.length < 65536) :
    Calls Try.prog 8 #[.agg #[.int .i32 (p : Int)], .pointer (some ⟨q, 0, none⟩), .pointer (some ⟨L, 0, none⟩), .pointer (some ⟨R, 0, none⟩)] w (Col B L R (cs ++ [p]) w) := by
  obtain ⟨v, u, hL, hR, hv, hu, h1, h2, h3⟩ := hs
  have nLR : L ≠ R := hL.ne hR (by decide)
  have L0 : w.cell? ⟨L, 0, none⟩ = some v := hL.cell 0
  have R0 : w.cell? ⟨R, 0, none⟩ = some u := hR.cell 0
  have q1 : w.cell? ⟨q, 1, none⟩ = some (.int .u32 (p : Int)) := hp.cell 1
  have fL := hL.frozen 0
  have fR := hR.frozen 0
  have zL := hL.lt
  have zR := hR.lt
  have zq := hp.lt
  obtain ⟨i0, hi, hz0, hz1, hz2⟩ := info_three info_i32
  obtain ⟨i1, gi, gz0, gz1, gz2⟩ := info_three info_u32
  have own := (hv.alloc (.cells #[.int .i32 (p : Int)] 31)).alloc (.cells #[.int .i32 (p : Int)] 21)
  have LL := Lib.hid hl
  have NL := Lib.hid nLR
  have HLL := Lib.hid hL
  have HRR := Lib.hid hR
  have HV := Lib.hid hv
  have HU := Lib.hid hu
  have HP := Lib.hid hp
  clear hL hR hv hu hp
  go_enter Try.func8, Try.ntmps8
  go_wp2_with (at_builtin; refine wpList_append_own_at _ rfl _ _ 27 rfl B 21 i0 (.int .i32 0) 1 4 Try.underlying27 hi hz0 hz1 hz2 rfl (by decide) _ _ _ rfl own ⟨w.heap.size + 1, 0, none⟩ 1 1 [.int .i32 (p : Int)] rfl rfl ?c1 ?c2 ?c3 ?c4 ?c5 ?_)
  case c1 => intro j u hj; cases j with | zero => (simp at hj; subst hj; simp [Addr.add]) | succ j => simp at hj
  case c2 => intro u hu; simp at hu; subst hu; rfl
  case c3 => unfold maxLen; omega
  case c4 => omega
  case c5 => simp; omega
  intro v' w1 hown' hgrow _ _
  have gL : Bk w1 L 27 #[v] := ((HLL.out.alloc _).alloc _).grown hgrow (own_ne own ((HLL.out.alloc _).alloc _) (by decide))
  have gR : Bk w1 R 28 #[u] := ((HRR.out.alloc _).alloc _).grown hgrow (own_ne own ((HRR.out.alloc _).alloc _) (by decide))
  have gq : Bk w1 q 37 #[.int .u32 0, .int .u32 (p : Int)] := ((HP.out.alloc _).alloc _).grown hgrow (own_ne own ((HP.out.alloc _).alloc _) (by decide))
  have gU : w1.ownsRow B 33 1 u cs.length (cs.map fun p : Nat => Value.int .u32 (p : Int)) := ((HU.out.alloc _).alloc _).kept hgrow (own_own own ((HU.out.alloc _).alloc _) (by decide))
  have bl1 : Below B w w1 := (((Below.refl _ _).alloc h3 _).alloc (by simp; omega) _).grown hgrow (by simp; omega) (fun k hk => (own.lt k hk).1)
  obtain ⟨g1, k1, rfl⟩ := own_form hown' (by omega)
  have b3 : B ≤ w1.heap.size := by have := bl1.size; omega
  have l0 : w1.cell? ⟨L, 0, none⟩ = some v := gL.cell 0
  have f0 := gL.frozen 0
  have OW := Lib.hid hown'
  have GL := Lib.hid gL
  have GR := Lib.hid gR
  have GQ := Lib.hid gq
  have GU := Lib.hid gU
  have BL := Lib.hid bl1
  clear hown' hgrow gL gR gq gU bl1 own L0 R0 q1 fL fR zL zR zq
  go_wp2_with fail
  obtain ⟨w2, hw2⟩ : ∃ w2, w2 = w1.setCell ⟨L, 0, none⟩ (.slice (some ⟨g1, 0, none⟩) (cs.length + 1) k1) := ⟨_, rfl⟩
  rw [← hw2]
  have OW2 : Hid (w2.ownsRow B 21 1 (.slice (some ⟨g1, 0, none⟩) (cs.length + 1) k1) (cs.length + 1) ((cs.map fun p : Nat => Value.int .i32 (p : Int)) ++ [.int .i32 (p : Int)])) := by rw [hw2]; exact own_set OW.out (own_ne OW.out GL.out (by decide))
  have GU2 : Hid (w2.ownsRow B 33 1 u cs.length (cs.map fun p : Nat => Value.int .u32 (p : Int))) := by rw [hw2]; exact own_set GU.out (own_ne GU.out GL.out (by decide))
  have L2 : Hid (Bk w2 L 27 #[.slice (some ⟨g1, 0, none⟩) (cs.length + 1) k1]) := by rw [hw2]; exact GL.out.setSelf (o := 0) (v := .slice (some ⟨g1, 0, none⟩) (cs.length + 1) k1)
  have R2 : Hid (Bk w2 R 28 #[u]) := by rw [hw2]; exact GR.out.set (Ne.symm NL.out)
  have Q2 : Hid (Bk w2 q 37 #[.int .u32 0, .int .u32 (p : Int)]) := by rw [hw2]; exact GQ.out.set (GQ.out.ne GL.out (by decide))
  have B2 : Hid (Below B w w2) := by rw [hw2]; exact BL.out.setCell h1 _
  have b4 : B ≤ w2.heap.size := by rw [hw2]; simpa using b3
  clear hw2 l0 f0 OW GL GR GQ GU BL
  have R0 : w2.cell? ⟨R, 0, none⟩ = some u := R2.out.cell 0
  have q1 : w2.cell? ⟨q, 1, none⟩ = some (.int .u32 (p : Int)) := Q2.out.cell 1
  have zR := R2.out.lt
  have zq := Q2.out.lt
  go_region_law ((refine step_append_lies _ (by rfl) _ _ _ (by rfl) B 33 i1 _ 1 4 Try.underlying28 gi gz0 gz1 gz2 rfl (by omega) u _ _ (by rfl) ((GU2.out.alloc _).drew) ⟨w2.heap.size, 0, none⟩ 1 1 [.int .u32 (p : Int)] (by rfl) (by rfl) (World.news_of_block (cs := #[.int .u32 (p : Int)]) (t := 33) (fr := (0, 0)) (heap_alloc_new w2 _)) (by simp [Value.oneCell']) (by omega) (by unfold maxLen; omega) (by omega) (by simp; omega) (w2.heap.size + 1) (by simp) ?_; intro gg cap w3 hown3 hgrow3 hat hlt; have KR : Bk w3 R 28 #[u] := Bk.grown (Bk.drew (R2.out.alloc _)) hgrow3 (own_ne GU2.out R2.out (by decide)); have a0 : w3.cell? ⟨R, 0, none⟩ = some u := KR.cell 0; have a1 := KR.frozen 0))
  all_goals
    go_end0
    have e1 : (cs ++ [p]).length = cs.length + 1 := by simp
    have e2 : ((cs ++ [p]).map fun p : Nat => Value.int .i32 (p : Int)) = (cs.map fun p : Nat => Value.int .i32 (p : Int)) ++ [.int .i32 (p : Int)] := by simp
    have e3 : ((cs ++ [p]).map fun p : Nat => Value.int .u32 (p : Int)) = (cs.map fun p : Nat => Value.int .u32 (p : Int)) ++ [.int .u32 (p : Int)] := by simp
    have o1 := World.ownsRow.kept ((OW2.out.alloc (.cells #[.int .u32 (p : Int)] 33)).drew) hgrow3 (own_own GU2.out OW2.out (by decide))
    have bl3 : Below B w w3 := ((B2.out.alloc b4 _).drew).grown hgrow3 (by simp; omega) (fun k hk => (GU2.out.lt k hk).1)
    refine ⟨rfl, ⟨.slice (some ⟨g1, 0, none⟩) (cs.length + 1) k1, .slice (some ⟨gg, 0, none⟩) (cs.length + 1) cap, ?_, KR.setSelf (o := 0) (v := .slice (some ⟨gg, 0, none⟩) (cs.length + 1) cap), ?_, ?_, h1, h2, ?_⟩, bl3.setCell h2 _⟩
    · exact (Bk.grown (Bk.drew (L2.out.alloc _)) hgrow3 (own_ne GU2.out L2.out (by decide))).set NL.out
    · rw [e1, e2]; exact own_set o1 (own_ne o1 KR (by decide))
    · rw [e1, e3]; exact own_set hown3 (own_ne hown3 KR (by decide))
    · have := bl3.size; simp; omega

end Go.Proofs.Ytbmmmgccmkompac
