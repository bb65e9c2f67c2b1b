/-
  The parser's state, what a tree in memory is good for, and small lemmas; no statement of its own.
-/
import Derived.Test.YtokkndnicpgdkaaRows
import Derived.WalkKit
import Derived.ProofKit
import Derived.OpenShut
import Derived.Test.YtokkndnicpgdkaaSlW
import Derived.WalkLawsBesides
import Derived.WalkSpells
import Derived.Below
import Derived.Lib.Hide
import Derived.Outline
import Derived.OwnWalk
import Derived.Laws.OwnMore
import Derived.Maps.AppendAt
namespace Go.Proofs.Ytokkndnicpgdkaa
open Go.ChangeShapes Go.WideShapes Go.ChangeAt Go.RowKit

set_option linter.unusedVariables false

theorem ta_ptr {P : Program} (t s T e : TypeId) (v : Value) (w : World) (hu : P.underlying T = some (.pointer e)) (hz : (zeroValue T).run P w = .ok (.pointer none) w) :
    (Instr.typeAssert (.iface t v) s T true).run P w = .ok (if t = T then .tuple #[v, .bool true] else .tuple #[.pointer none, .bool false]) w := by
  by_cases h : t = T <;> simp [Instr.typeAssert, run_underlying hu, hz, h]
theorem ta_nil {P : Program} (s T e : TypeId) (w : World) (hu : P.underlying T = some (.pointer e)) (hz : (zeroValue T).run P w = .ok (.pointer none) w) :
    (Instr.typeAssert .nilIface s T true).run P w = .ok (.tuple #[.pointer none, .bool false]) w := by
  simp [Instr.typeAssert, run_underlying hu, hz]
theorem ta49 (t : TypeId) (v : Value) (s : TypeId) (w : World) : (Instr.typeAssert (.iface t v) s 49 true).run Try.prog w = .ok (if t = 49 then .tuple #[v, .bool true] else .tuple #[.pointer none, .bool false]) w := ta_ptr t s 49 _ v w Try.underlying49 (by kernel_rfl)
theorem tn49 (s : TypeId) (w : World) : (Instr.typeAssert .nilIface s 49 true).run Try.prog w = .ok (.tuple #[.pointer none, .bool false]) w := ta_nil s 49 _ w Try.underlying49 (by kernel_rfl)
theorem ta52 (t : TypeId) (v : Value) (s : TypeId) (w : World) : (Instr.typeAssert (.iface t v) s 52 true).run Try.prog w = .ok (if t = 52 then .tuple #[v, .bool true] else .tuple #[.pointer none, .bool false]) w := ta_ptr t s 52 _ v w Try.underlying52 (by kernel_rfl)
theorem tn52 (s : TypeId) (w : World) : (Instr.typeAssert .nilIface s 52 true).run Try.prog w = .ok (.tuple #[.pointer none, .bool false]) w := ta_nil s 52 _ w Try.underlying52 (by kernel_rfl)
theorem ta61 (t : TypeId) (v : Value) (s : TypeId) (w : World) : (Instr.typeAssert (.iface t v) s 61 true).run Try.prog w = .ok (if t = 61 then .tuple #[v, .bool true] else .tuple #[.pointer none, .bool false]) w := ta_ptr t s 61 _ v w Try.underlying61 (by kernel_rfl)
theorem tn61 (s : TypeId) (w : World) : (Instr.typeAssert .nilIface s 61 true).run Try.prog w = .ok (.tuple #[.pointer none, .bool false]) w := ta_nil s 61 _ w Try.underlying61 (by kernel_rfl)
theorem ta65 (t : TypeId) (v : Value) (s : TypeId) (w : World) : (Instr.typeAssert (.iface t v) s 65 true).run Try.prog w = .ok (if t = 65 then .tuple #[v, .bool true] else .tuple #[.pointer none, .bool false]) w := ta_ptr t s 65 _ v w Try.underlying65 (by kernel_rfl)
theorem tn65 (s : TypeId) (w : World) : (Instr.typeAssert .nilIface s 65 true).run Try.prog w = .ok (.tuple #[.pointer none, .bool false]) w := ta_nil s 65 _ w Try.underlying65 (by kernel_rfl)
theorem ta71 (t : TypeId) (v : Value) (s : TypeId) (w : World) : (Instr.typeAssert (.iface t v) s 71 true).run Try.prog w = .ok (if t = 71 then .tuple #[v, .bool true] else .tuple #[.pointer none, .bool false]) w := ta_ptr t s 71 _ v w Try.underlying71 (by kernel_rfl)
theorem tn71 (s : TypeId) (w : World) : (Instr.typeAssert .nilIface s 71 true).run Try.prog w = .ok (.tuple #[.pointer none, .bool false]) w := ta_nil s 71 _ w Try.underlying71 (by kernel_rfl)
theorem ta83 (t : TypeId) (v : Value) (s : TypeId) (w : World) : (Instr.typeAssert (.iface t v) s 83 true).run Try.prog w = .ok (if t = 83 then .tuple #[v, .bool true] else .tuple #[.pointer none, .bool false]) w := ta_ptr t s 83 _ v w Try.underlying83 (by kernel_rfl)
theorem tn83 (s : TypeId) (w : World) : (Instr.typeAssert .nilIface s 83 true).run Try.prog w = .ok (.tuple #[.pointer none, .bool false]) w := ta_nil s 83 _ w Try.underlying83 (by kernel_rfl)
theorem ta85 (t : TypeId) (v : Value) (s : TypeId) (w : World) : (Instr.typeAssert (.iface t v) s 85 true).run Try.prog w = .ok (if t = 85 then .tuple #[v, .bool true] else .tuple #[.pointer none, .bool false]) w := ta_ptr t s 85 _ v w Try.underlying85 (by kernel_rfl)
theorem tn85 (s : TypeId) (w : World) : (Instr.typeAssert .nilIface s 85 true).run Try.prog w = .ok (.tuple #[.pointer none, .bool false]) w := ta_nil s 85 _ w Try.underlying85 (by kernel_rfl)
theorem ta89 (t : TypeId) (v : Value) (s : TypeId) (w : World) : (Instr.typeAssert (.iface t v) s 89 true).run Try.prog w = .ok (if t = 89 then .tuple #[v, .bool true] else .tuple #[.pointer none, .bool false]) w := ta_ptr t s 89 _ v w Try.underlying89 (by kernel_rfl)
theorem tn89 (s : TypeId) (w : World) : (Instr.typeAssert .nilIface s 89 true).run Try.prog w = .ok (.tuple #[.pointer none, .bool false]) w := ta_nil s 89 _ w Try.underlying89 (by kernel_rfl)
theorem ta93 (t : TypeId) (v : Value) (s : TypeId) (w : World) : (Instr.typeAssert (.iface t v) s 93 true).run Try.prog w = .ok (if t = 93 then .tuple #[v, .bool true] else .tuple #[.pointer none, .bool false]) w := ta_ptr t s 93 _ v w Try.underlying93 (by kernel_rfl)
theorem tn93 (s : TypeId) (w : World) : (Instr.typeAssert .nilIface s 93 true).run Try.prog w = .ok (.tuple #[.pointer none, .bool false]) w := ta_nil s 93 _ w Try.underlying93 (by kernel_rfl)
theorem ta103 (t : TypeId) (v : Value) (s : TypeId) (w : World) : (Instr.typeAssert (.iface t v) s 103 true).run Try.prog w = .ok (if t = 103 then .tuple #[v, .bool true] else .tuple #[.pointer none, .bool false]) w := ta_ptr t s 103 _ v w Try.underlying103 (by kernel_rfl)
theorem tn103 (s : TypeId) (w : World) : (Instr.typeAssert .nilIface s 103 true).run Try.prog w = .ok (.tuple #[.pointer none, .bool false]) w := ta_nil s 103 _ w Try.underlying103 (by kernel_rfl)
theorem ta111 (t : TypeId) (v : Value) (s : TypeId) (w : World) : (Instr.typeAssert (.iface t v) s 111 true).run Try.prog w = .ok (if t = 111 then .tuple #[v, .bool true] else .tuple #[.pointer none, .bool false]) w := ta_ptr t s 111 _ v w Try.underlying111 (by kernel_rfl)
theorem tn111 (s : TypeId) (w : World) : (Instr.typeAssert .nilIface s 111 true).run Try.prog w = .ok (.tuple #[.pointer none, .bool false]) w := ta_nil s 111 _ w Try.underlying111 (by kernel_rfl)
theorem ta113 (t : TypeId) (v : Value) (s : TypeId) (w : World) : (Instr.typeAssert (.iface t v) s 113 true).run Try.prog w = .ok (if t = 113 then .tuple #[v, .bool true] else .tuple #[.pointer none, .bool false]) w := ta_ptr t s 113 _ v w Try.underlying113 (by kernel_rfl)
theorem tn113 (s : TypeId) (w : World) : (Instr.typeAssert .nilIface s 113 true).run Try.prog w = .ok (.tuple #[.pointer none, .bool false]) w := ta_nil s 113 _ w Try.underlying113 (by kernel_rfl)
attribute [go_sem] ta49 tn49 ta52 tn52 ta61 tn61 ta65 tn65 ta71 tn71 ta83 tn83 ta85 tn85 ta89 tn89 ta93 tn93 ta103 tn103 ta111 tn111 ta113 tn113
/-- Block g holds the cells cs, of element type t. -/
def Bk (w : World) (g : Nat) (t : TypeId) (cs : Array Value) : Prop := w.heap[g]? = some (.cells cs t (0, 0))
theorem Bk.lt {w : World} {g : Nat} {t : TypeId} {cs : Array Value} (h : Bk w g t cs) : g < w.heap.size := by
  rcases Nat.lt_or_ge g w.heap.size with hlt | hge
  · exact hlt
  · unfold Bk at h; rw [Array.getElem?_eq_none hge] at h; cases h
theorem Bk.cell {w : World} {g : Nat} {t : TypeId} {cs : Array Value} (h : Bk w g t cs) (i : Nat) : w.cell? ⟨g, i, none⟩ = cs[i]? := by
  unfold Bk at h; simp [World.cell?, h]
theorem Bk.frozen {w : World} {g : Nat} {t : TypeId} {cs : Array Value} (h : Bk w g t cs) (i : Nat) : w.frozen? ⟨g, i, none⟩ = false := by
  unfold Bk at h; simp [World.frozen?, h]
theorem Bk.below {w w' : World} {B g : Nat} {t : TypeId} {cs : Array Value} (h : Bk w g t cs) (hb : Below B w w') (hg : g < B) : Bk w' g t cs := (hb.block g hg).trans h
theorem Bk.later {w w' : World} {g : Nat} {t : TypeId} {cs : Array Value} (h : Bk w g t cs) (hb : Below w.heap.size w w') : Bk w' g t cs := h.below hb h.lt
theorem Bk.ne {w : World} {g g' : Nat} {t t' : TypeId} {cs cs' : Array Value} (h : Bk w g t cs) (h' : Bk w g' t' cs') (hne : t ≠ t') : g ≠ g' := by
  rintro rfl
  unfold Bk at h h'
  rw [h] at h'
  injection h' with h'
  injection h' with _ ht
  exact hne ht
theorem Bk.new (w : World) (t : TypeId) (cs : Array Value) : Bk (w.alloc (.cells cs t)) w.heap.size t cs := by unfold Bk; show (w.heap.push _)[_]? = _; simp
theorem Bk.new' (w : World) (n : Nat) (t : TypeId) (cs : Array Value) (hn : n = w.heap.size) : Bk (w.alloc (.cells cs t)) n t cs := hn ▸ Bk.new w t cs
theorem Bk.setSelf {w : World} {g o : Nat} {t : TypeId} {cs : Array Value} {v : Value} (h : Bk w g t cs) : Bk (w.setCell ⟨g, o, none⟩ v) g t (cs.setIfInBounds o v) := by
  unfold Bk at *; simp [World.setCell, Array.getElem?_modify, h]
theorem Bk.set {w : World} {g b o : Nat} {t : TypeId} {cs : Array Value} {v : Value} (h : Bk w g t cs) (hn : g ≠ b) : Bk (w.setCell ⟨b, o, none⟩ v) g t cs := by
  unfold Bk at *; rw [Below.heap_setCell _ _ _ _ hn]; exact h
theorem Bk.alloc {w : World} {g : Nat} {t : TypeId} {cs : Array Value} (h : Bk w g t cs) (o : Obj) : Bk (w.alloc o) g t cs := h.later ((Below.refl _ _).alloc (Nat.le_refl _) _)
theorem Bk.drew {w : World} {g : Nat} {t : TypeId} {cs : Array Value} (h : Bk w g t cs) : Bk w.drew g t cs := h
theorem Bk.grown {w w' : World} {g : Nat} {t : TypeId} {cs : Array Value} {row : Option Nat} (h : Bk w g t cs) (hg : w.grownBy w' row) (hn : some g ≠ row) : Bk w' g t cs := (hg.block g h.lt hn).trans h
/-- The row's block is none of an element of another type. -/
theorem own_ne {w : World} {B g n : Nat} {e t : TypeId} {v : Value} {xs : List Value} {cs : Array Value} {size : Nat} (h : w.ownsRow B e size v n xs) (hb : Bk w g t cs) (hne : t ≠ e) : some g ≠ v.ownBlock := by
  rcases h.2 with ⟨rfl, _⟩ | ⟨g', cap, cur, rfl, _, hg, _⟩
  · simp [Value.ownBlock]
  · intro hh
    simp [Value.ownBlock] at hh
    subst hh
    unfold Bk at hb; rw [hg] at hb; injection hb with hb; injection hb with _ hb; exact hne hb.symm
theorem own_own {w : World} {B n n' : Nat} {e e' : TypeId} {v v' : Value} {xs xs' : List Value} {size size' : Nat} (h : w.ownsRow B e size v n xs) (h' : w.ownsRow B e' size' v' n' xs') (hne : e ≠ e') : v'.ownBlock = none ∨ v'.ownBlock ≠ v.ownBlock := by
  rcases h'.2 with ⟨rfl, _⟩ | ⟨g', cap, cur, rfl, _, hg, _⟩
  · left; rfl
  · right
    exact own_ne (t := e') h hg (Ne.symm hne)
theorem own_form {w : World} {B n : Nat} {e : TypeId} {v : Value} {xs : List Value} {size : Nat} (h : w.ownsRow B e size v n xs) (hn : 0 < n) : ∃ g cap, v = .slice (some ⟨g, 0, none⟩) n cap := by
  rcases h.2 with ⟨_, h0⟩ | ⟨g', cap, cur, h1, _⟩
  · omega
  · exact ⟨g', cap, h1⟩
theorem own_set {w : World} {B n b o : Nat} {e : TypeId} {v u : Value} {xs : List Value} {size : Nat} (h : w.ownsRow B e size v n xs) (hne : some b ≠ v.ownBlock) : (w.setCell ⟨b, o, none⟩ u).ownsRow B e size v n xs :=
  h.kept (row := some b) ⟨rfl, rfl, rfl, by simp, fun k hk hn => Below.heap_setCell _ _ _ _ (fun e => hn (by rw [e]))⟩ (.inr (Ne.symm hne))
theorem own_below {w w' : World} {B n : Nat} {e : TypeId} {v : Value} {xs : List Value} {size : Nat} (h : w.ownsRow B e size v n xs) (hb : Below w.heap.size w w') : w'.ownsRow B e size v n xs := by
  refine h.kept (row := none) ⟨hb.os, hb.tape, hb.output, hb.size, fun k hk _ => hb.block k hk⟩ ?_
  cases hv : v.ownBlock with
  | none => exact .inl rfl
  | some g => exact .inr (by simp)
theorem row_form {w : World} {B n size : Nat} {e : TypeId} {v : Value} {xs : List Value} (h : w.ownsRow B e size v n xs) : ∃ a l c, v = .slice a l c := by
  rcases h.2 with ⟨rfl, h0⟩ | ⟨g, cap, cur, rfl, _⟩
  · exact ⟨_, _, _, rfl⟩
  · exact ⟨_, _, _, rfl⟩
theorem slice_own {w : World} {B n size l c : Nat} {e : TypeId} {a : Option Addr} {xs : List Value} (h : w.ownsRow B e size (.slice a l c) n xs) : n = l ∧ (a = none → n = 0) := by
  rcases h.2 with ⟨h1, h0⟩ | ⟨g, cap, cur, h1, _⟩
  · simp at h1; exact ⟨by omega, fun _ => h0⟩
  · simp at h1; exact ⟨by omega, fun hh => by rw [hh] at h1; simp at h1⟩
/-- But for block R, what was there is as it was. -/
def Kp (R : Nat) (w w' : World) : Prop := w.heap.size ≤ w'.heap.size ∧ ∀ b, b < w.heap.size → b ≠ R → w'.heap[b]? = w.heap[b]?
theorem Kp.refl (R : Nat) (w : World) : Kp R w w := ⟨Nat.le_refl _, fun _ _ _ => rfl⟩
theorem Kp.drew {R : Nat} {w w' : World} (h : Kp R w w') : Kp R w w'.drew := h
theorem Kp.alloc {R : Nat} {w w' : World} (h : Kp R w w') (o : Obj) : Kp R w (w'.alloc o) := ⟨by have := h.1; simp; omega, fun b hb hn => (Below.heap_alloc _ _ _ (by have := h.1; omega)).trans (h.2 b hb hn)⟩
theorem Kp.set {R : Nat} {w w' : World} (h : Kp R w w') (o : Nat) (v : Value) : Kp R w (w'.setCell ⟨R, o, none⟩ v) := ⟨by have := h.1; simpa using this, fun b hb hn => (Below.heap_setCell _ _ _ _ hn).trans (h.2 b hb hn)⟩
theorem Kp.cell {R : Nat} {w w' : World} (h : Kp R w w') {b o : Nat} {v : Value} (hn : b ≠ R) (hc : w.cell? ⟨b, o, none⟩ = some v) : w'.cell? ⟨b, o, none⟩ = some v := by
  have hb : b < w.heap.size := by
    rcases Nat.lt_or_ge b w.heap.size with hlt | hge
    · exact hlt
    · simp [World.cell?, Array.getElem?_eq_none hge] at hc
  rw [← hc]; simp [World.cell?, h.2 b hb hn]
theorem Kp.bk {R : Nat} {w w' : World} (h : Kp R w w') {b : Nat} {t : TypeId} {cs : Array Value} (hn : b ≠ R) (hc : Bk w b t cs) : Bk w' b t cs := (h.2 b hc.lt hn).trans hc
abbrev ptr (g : Nat) : Value := .pointer (some ⟨g, 0, none⟩)
theorem below_drewN {B : Nat} {w w' : World} (h : Below B w w') (q : Nat) : Below B w (w'.drewN q) := ⟨h.1, h.2, h.3, h.4, h.5⟩
/-- The words of a stream, as they stand in memory. -/
def words (xs : List Nat) : List Value := xs.map fun x : Nat => Value.int .u32 (x : Int)
theorem words_app (xs ys : List Nat) : words (xs ++ ys) = words xs ++ words ys := by unfold words; rw [List.map_append]
theorem words_len (xs : List Nat) : (words xs).length = xs.length := by simp [words]
theorem info_w : (Try.prog.info? 48).map (fun i => (i.zero, i.size, i.bytes)) = some (some (.int .u32 0), 1, 4) := by kernel_rfl
/-- The blocks lo .. hi are as they were, but for rows of words. -/
def AgreeT (lo hi : Nat) (w w1 : World) : Prop := ∀ b cs t fr, lo ≤ b → b < hi → t ≠ 48 → w.heap[b]? = some (.cells cs t fr) → w1.heap[b]? = some (.cells cs t fr)
theorem AgreeT.refl (lo hi : Nat) (w : World) : AgreeT lo hi w w := fun _ _ _ _ _ _ _ h => h
theorem AgreeT.trans {lo hi : Nat} {w w1 w2 : World} (h : AgreeT lo hi w w1) (h' : AgreeT lo hi w1 w2) : AgreeT lo hi w w2 := fun b cs t fr h1 h2 h3 h4 => h' b cs t fr h1 h2 h3 (h b cs t fr h1 h2 h3 h4)
theorem AgreeT.sub {lo hi lo' hi' : Nat} {w w1 : World} (h : AgreeT lo hi w w1) (h1 : lo ≤ lo') (h2 : hi' ≤ hi) : AgreeT lo' hi' w w1 := fun b cs t fr h3 h4 => h b cs t fr (by omega) (by omega)
theorem agreeT_below {lo hi B : Nat} {w w1 : World} (h : Below B w w1) (hB : hi ≤ B) : AgreeT lo hi w w1 := fun b cs t fr _ h2 _ h4 => (h.block b (by omega)).trans h4
theorem AgreeT.bk {lo hi : Nat} {w w1 : World} (h : AgreeT lo hi w w1) {g : Nat} {t : TypeId} {cs : Array Value} (hb : Bk w g t cs) (h1 : lo ≤ g) (h2 : g < hi) (ht : t ≠ 48) : Bk w1 g t cs := h g cs t _ h1 h2 ht hb
/-- All is as it was, but for rows of words and block P. -/
def KeepT (P : Nat) (w w1 : World) : Prop := ∀ b cs t fr, b ≠ P → t ≠ 48 → w.heap[b]? = some (.cells cs t fr) → w1.heap[b]? = some (.cells cs t fr)
theorem KeepT.refl (P : Nat) (w : World) : KeepT P w w := fun _ _ _ _ _ _ h => h
theorem KeepT.trans {P : Nat} {w w1 w2 : World} (h : KeepT P w w1) (h' : KeepT P w1 w2) : KeepT P w w2 := fun b cs t fr h1 h2 h3 => h' b cs t fr h1 h2 (h b cs t fr h1 h2 h3)
theorem heap_lt {w : World} {b : Nat} {o : Obj} (h : w.heap[b]? = some o) : b < w.heap.size := (Array.getElem?_eq_some_iff.1 h).1
theorem KeepT.alloc {P : Nat} {w w1 : World} (h : KeepT P w w1) (o : Obj) : KeepT P w (w1.alloc o) := fun b cs t fr h1 h2 h3 => by
  have h4 := h b cs t fr h1 h2 h3
  rw [Below.heap_alloc _ _ _ (heap_lt h4)]; exact h4
theorem KeepT.set {P : Nat} {w w1 : World} (h : KeepT P w w1) (o : Nat) (v : Value) : KeepT P w (w1.setCell ⟨P, o, none⟩ v) := fun b cs t fr h1 h2 h3 => by
  rw [Below.heap_setCell _ _ _ _ h1]; exact h b cs t fr h1 h2 h3
theorem KeepT.drewN {P : Nat} {w w1 : World} (h : KeepT P w w1) (n : Nat) : KeepT P w (w1.drewN n) := h
/-- A store into a block that is not among the old ones. -/
theorem KeepT.setNew {P : Nat} {w w1 : World} (h : KeepT P w w1) {g : Nat} (hg : w.heap.size ≤ g) (o : Nat) (v : Value) : KeepT P w (w1.setCell ⟨g, o, none⟩ v) := fun b cs t fr h1 h2 h3 => by
  rw [Below.heap_setCell _ _ _ _ (by have := heap_lt h3; show b ≠ g; omega)]; exact h b cs t fr h1 h2 h3
theorem KeepT.grown {P : Nat} {w wa w1 : World} (h : KeepT P w wa) {B n : Nat} {v : Value} {xs : List Value} (ho : wa.ownsRow B 48 1 v n xs) (hg : wa.grownBy w1 v.ownBlock) : KeepT P w w1 := fun b cs t fr h1 h2 h3 => by
  have h4 := h b cs t fr h1 h2 h3
  rw [hg.block b (heap_lt h4) ?_]
  · exact h4
  · rcases ho.2 with ⟨rfl, _⟩ | ⟨g', cap, cur, rfl, _, hg', _⟩
    · simp [Value.ownBlock]
    · intro hh
      simp [Value.ownBlock] at hh
      subst hh
      rw [hg'] at h4; injection h4 with h4; injection h4 with _ h4; exact h2 h4.symm
theorem KeepT.agree {P lo hi : Nat} {w w1 : World} (h : KeepT P w w1) (hP : P < lo) : AgreeT lo hi w w1 := fun b cs t fr h1 _ h3 h4 => h b cs t fr (by omega) h3 h4
theorem KeepT.bk {P : Nat} {w w1 : World} (h : KeepT P w w1) {g : Nat} {t : TypeId} {cs : Array Value} (hb : Bk w g t cs) (h1 : g ≠ P) (ht : t ≠ 48) : Bk w1 g t cs := h g cs t _ h1 ht hb
/-- The parser's state: position, and the words written so far. -/
def PSt (P B : Nat) (A : Option Addr) (n c pos : Nat) (cs : List Nat) (w : World) : Prop := ∃ va vc, Bk w P 26 #[.slice A n c, .int .i64 (pos : Int), .slice va cs.length vc] ∧ w.ownsRow B 48 1 (.slice va cs.length vc) cs.length (words cs) ∧ B ≤ P
theorem PSt.lt {P B : Nat} {A : Option Addr} {n c pos : Nat} {cs : List Nat} {w : World} (h : PSt P B A n c pos cs w) : P < w.heap.size := by obtain ⟨va, vc, h1, _⟩ := h; exact h1.lt
theorem PSt.alloc {P B : Nat} {A : Option Addr} {n c pos : Nat} {cs : List Nat} {w : World} (h : PSt P B A n c pos cs w) (o : Obj) : PSt P B A n c pos cs (w.alloc o) := by
  obtain ⟨va, vc, h1, h2, h3⟩ := h; exact ⟨va, vc, h1.alloc _, h2.alloc _, h3⟩
theorem PSt.set {P B : Nat} {A : Option Addr} {n c pos : Nat} {cs : List Nat} {w : World} (h : PSt P B A n c pos cs w) {g o : Nat} {v : Value} {t : TypeId} {cs' : Array Value} (hb : Bk w g t cs') (h1 : t ≠ 26) (h2 : t ≠ 48) : PSt P B A n c pos cs (w.setCell ⟨g, o, none⟩ v) := by
  obtain ⟨va, vc, h3, h4, h5⟩ := h
  exact ⟨va, vc, h3.set (h3.ne hb (Ne.symm h1)), own_set h4 (own_ne h4 hb h2), h5⟩
theorem Bk.anySet {w : World} {g b o : Nat} {t : TypeId} {v : Value} (h : ∃ cs, Bk w g t cs) : ∃ cs, Bk (w.setCell ⟨b, o, none⟩ v) g t cs := by
  obtain ⟨cs, h⟩ := h
  by_cases e : g = b
  · subst e; exact ⟨_, h.setSelf⟩
  · exact ⟨_, h.set e⟩
/-- The parser's state, and two boxes of the call's own. -/
def PB (P B : Nat) (A : Option Addr) (n c pos : Nat) (cs : List Nat) (R S : Nat) (w : World) : Prop := PSt P B A n c pos cs w ∧ (∃ c1, Bk w R 32 c1) ∧ ∃ c2, Bk w S 32 c2
theorem PB.alloc {P B : Nat} {A : Option Addr} {n c pos : Nat} {cs : List Nat} {R S : Nat} {w : World} (h : PB P B A n c pos cs R S w) (o : Obj) : PB P B A n c pos cs R S (w.alloc o) :=
  ⟨h.1.alloc _, by obtain ⟨c1, h1⟩ := h.2.1; exact ⟨c1, h1.alloc _⟩, by obtain ⟨c1, h1⟩ := h.2.2; exact ⟨c1, h1.alloc _⟩⟩
theorem PB.set {P B : Nat} {A : Option Addr} {n c pos : Nat} {cs : List Nat} {R S : Nat} {w : World} (h : PB P B A n c pos cs R S w) {g : Nat} (hg : g = R ∨ g = S) (o : Nat) (v : Value) : PB P B A n c pos cs R S (w.setCell ⟨g, o, none⟩ v) := by
  refine ⟨?_, Bk.anySet h.2.1, Bk.anySet h.2.2⟩
  rcases hg with rfl | rfl
  · obtain ⟨c1, h1⟩ := h.2.1; exact h.1.set h1 (by decide) (by decide)
  · obtain ⟨c1, h1⟩ := h.2.2; exact h.1.set h1 (by decide) (by decide)
/-- Behind 'p.canon = append(p.canon, x)'. -/
theorem canon_push {P B : Nat} {A : Option Addr} {n c pos : Nat} {cs : List Nat} {wa w1 : World} {va : Option Addr} {vc x : Nat} {v' : Value} (hP : Bk wa P 26 #[.slice A n c, .int .i64 (pos : Int), .slice va cs.length vc]) (ho : wa.ownsRow B 48 1 (.slice va cs.length vc) cs.length (words cs)) (hB : B ≤ P)
    (hown : w1.ownsRow B 48 1 v' (cs.length + 1) (words cs ++ [.int .u32 (x : Int)])) (hg : wa.grownBy w1 (Value.slice va cs.length vc).ownBlock) :
    Bk w1 P 26 #[.slice A n c, .int .i64 (pos : Int), .slice va cs.length vc] ∧ ∃ a k, v' = .slice a (cs.length + 1) k ∧ PSt P B A n c pos (cs ++ [x]) (w1.setCell ⟨P, 2, none⟩ (.slice a (cs.length + 1) k)) ∧ KeepT P wa (w1.setCell ⟨P, 2, none⟩ (.slice a (cs.length + 1) k)) ∧ Below B wa (w1.setCell ⟨P, 2, none⟩ (.slice a (cs.length + 1) k)) := by
  have h1 := hP.grown hg (own_ne ho hP (by decide))
  obtain ⟨g, k, rfl⟩ := own_form hown (by omega)
  refine ⟨h1, some ⟨g, 0, none⟩, k, rfl, ⟨some ⟨g, 0, none⟩, k, ?_, ?_, hB⟩, ((KeepT.refl P wa).grown ho hg).set _ _, ?_⟩
  · rw [List.length_append, List.length_singleton]
    exact h1.setSelf (o := 2) (v := .slice (some ⟨g, 0, none⟩) (cs.length + 1) k)
  · rw [words_app, List.length_append, List.length_singleton]
    exact own_set hown (own_ne hown h1 (by decide))
  · exact ((Below.refl B wa).grown hg (by have := hP.lt; omega) (fun j hj => (ho.lt j hj).1)).setCell hB _

end Go.Proofs.Ytokkndnicpgdkaa
