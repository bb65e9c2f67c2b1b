/-
  The chain of additions in memory, the shape of what simplifyUnusedStringAdditionChain makes of it, and how two expressions compare; no statement of their own.
-/
import Derived.Test.YtbmmmgccmkompadRows
import Derived.WalkKit
import Derived.ProofKit
import Derived.OpenShut
import Derived.Test.YtbmmmgccmkompadSlW
import Derived.WalkLawsBesides
import Derived.WalkSpells
import Derived.Below
import Derived.Lib.Hide
import Derived.LaidEql
import Derived.Laws.StructEq
import Derived.Laws.OwnMore
namespace Go.Proofs.Ytbmmmgccmkompad
open Go.ChangeShapes Go.WideShapes Go.ChangeAt Go.RowKit

set_option linter.unusedVariables false

theorem ta_ptr {P : Program} (t s T e : TypeId) (v : Value) (w : World) (hu : P.underlying T = some (.pointer e)) (hz : (zeroValue T).run P w = .ok (.pointer none) w) :
    (Instr.typeAssert (.iface t v) s T true).run P w = .ok (if t = T then .tuple #[v, .bool true] else .tuple #[.pointer none, .bool false]) w := by
  by_cases h : t = T <;> simp [Instr.typeAssert, run_underlying hu, hz, h]
theorem ta_nil {P : Program} (s T e : TypeId) (w : World) (hu : P.underlying T = some (.pointer e)) (hz : (zeroValue T).run P w = .ok (.pointer none) w) :
    (Instr.typeAssert .nilIface s T true).run P w = .ok (.tuple #[.pointer none, .bool false]) w := by
  simp [Instr.typeAssert, run_underlying hu, hz]
theorem ta39 (t : TypeId) (v : Value) (s : TypeId) (w : World) : (Instr.typeAssert (.iface t v) s 39 true).run Try.prog w = .ok (if t = 39 then .tuple #[v, .bool true] else .tuple #[.pointer none, .bool false]) w := ta_ptr t s 39 _ v w Try.underlying39 (by kernel_rfl)
theorem tn39 (s : TypeId) (w : World) : (Instr.typeAssert .nilIface s 39 true).run Try.prog w = .ok (.tuple #[.pointer none, .bool false]) w := ta_nil s 39 _ w Try.underlying39 (by kernel_rfl)
theorem ta44 (t : TypeId) (v : Value) (s : TypeId) (w : World) : (Instr.typeAssert (.iface t v) s 44 true).run Try.prog w = .ok (if t = 44 then .tuple #[v, .bool true] else .tuple #[.pointer none, .bool false]) w := ta_ptr t s 44 _ v w Try.underlying44 (by kernel_rfl)
theorem tn44 (s : TypeId) (w : World) : (Instr.typeAssert .nilIface s 44 true).run Try.prog w = .ok (.tuple #[.pointer none, .bool false]) w := ta_nil s 44 _ w Try.underlying44 (by kernel_rfl)
theorem ta46 (t : TypeId) (v : Value) (s : TypeId) (w : World) : (Instr.typeAssert (.iface t v) s 46 true).run Try.prog w = .ok (if t = 46 then .tuple #[v, .bool true] else .tuple #[.pointer none, .bool false]) w := ta_ptr t s 46 _ v w Try.underlying46 (by kernel_rfl)
theorem tn46 (s : TypeId) (w : World) : (Instr.typeAssert .nilIface s 46 true).run Try.prog w = .ok (.tuple #[.pointer none, .bool false]) w := ta_nil s 46 _ w Try.underlying46 (by kernel_rfl)
attribute [go_sem] ta39 tn39 ta44 tn44 ta46 tn46
/-- Block g holds the cells cs, of element type t. -/
def Bk (w : World) (g : Nat) (t : TypeId) (cs : Array Value) : Prop := w.heap[g]? = some (.cells cs t (0, 0))
theorem Bk.lt {w : World} {g : Nat} {t : TypeId} {cs : Array Value} (h : Bk w g t cs) : g < w.heap.size := by
  rcases Nat.lt_or_ge g w.heap.size with hlt | hge
  · exact hlt
  · unfold Bk at h; rw [Array.getElem?_eq_none hge] at h; cases h
theorem Bk.cell {w : World} {g : Nat} {t : TypeId} {cs : Array Value} (h : Bk w g t cs) (i : Nat) : w.cell? ⟨g, i, none⟩ = cs[i]? := by
  unfold Bk at h; simp [World.cell?, h]
theorem Bk.frozen {w : World} {g : Nat} {t : TypeId} {cs : Array Value} (h : Bk w g t cs) (i : Nat) : w.frozen? ⟨g, i, none⟩ = false := by
  unfold Bk at h; simp [World.frozen?, h]
theorem Bk.below {w w' : World} {B g : Nat} {t : TypeId} {cs : Array Value} (h : Bk w g t cs) (hb : Below B w w') (hg : g < B) : Bk w' g t cs := (hb.block g hg).trans h
theorem Bk.later {w w' : World} {g : Nat} {t : TypeId} {cs : Array Value} (h : Bk w g t cs) (hb : Below w.heap.size w w') : Bk w' g t cs := h.below hb h.lt
theorem Bk.ne {w : World} {g g' : Nat} {t t' : TypeId} {cs cs' : Array Value} (h : Bk w g t cs) (h' : Bk w g' t' cs') (hne : t ≠ t') : g ≠ g' := by
  rintro rfl
  unfold Bk at h h'
  rw [h] at h'
  injection h' with h'
  injection h' with _ ht
  exact hne ht
theorem Bk.new (w : World) (t : TypeId) (cs : Array Value) : Bk (w.alloc (.cells cs t)) w.heap.size t cs := by unfold Bk; show (w.heap.push _)[_]? = _; simp
theorem Bk.new' (w : World) (n : Nat) (t : TypeId) (cs : Array Value) (hn : n = w.heap.size) : Bk (w.alloc (.cells cs t)) n t cs := hn ▸ Bk.new w t cs
theorem Bk.setSelf {w : World} {g o : Nat} {t : TypeId} {cs : Array Value} {v : Value} (h : Bk w g t cs) : Bk (w.setCell ⟨g, o, none⟩ v) g t (cs.setIfInBounds o v) := by
  unfold Bk at *; simp [World.setCell, Array.getElem?_modify, h]
/-- The location of node number i: 0 for the first, 2i+1 for the others. -/
def loc (i : Nat) : Int := if i = 0 then 0 else 2 * (i : Int) + 1
theorem loc_zero : loc 0 = 0 := rfl
theorem loc_succ (i : Nat) : loc (i + 1) = 2 * ((i : Int) + 1) + 1 := by unfold loc; rw [if_neg (by omega)]; omega
abbrev ptr (g : Nat) : Value := .pointer (some ⟨g, 0, none⟩)
/-- An operand: an identifier (r < 0), the empty string (r = 0) or a string of one unit (0 < r), its node in block q. -/
def Opd (w : World) (r : Int) (q : Nat) (d : Value) : Prop :=
  (r < 0 ∧ d = .iface 44 (ptr q) ∧ ∃ cs, Bk w q 56 cs) ∨
  (0 ≤ r ∧ d = .iface 46 (ptr q) ∧ ∃ A n c a b e f, ((r = 0 ∧ n = 0) ∨ (0 < r ∧ n = 1)) ∧ Bk w q 50 #[.slice A n c, a, b, e, f])
theorem Opd.move {w w' : World} {r : Int} {q : Nat} {d : Value} (h : Opd w r q d) (hk : ∀ t cs, (t = 56 ∨ t = 50) → Bk w q t cs → Bk w' q t cs) : Opd w' r q d := by
  rcases h with ⟨h1, h2, cs, h3⟩ | ⟨h1, h2, A, n, c, a, b, e, f, h3, h4⟩
  · exact .inl ⟨h1, h2, cs, hk _ _ (.inl rfl) h3⟩
  · exact .inr ⟨h1, h2, A, n, c, a, b, e, f, h3, hk _ _ (.inr rfl) h4⟩
def binCells (dl : Value) (ll : Int) (dr : Value) (lr : Int) : Array Value := #[dl, .int .i32 ll, dr, .int .i32 lr, .int .u8 11, .bool false]
/-- The chain up to node m: node i is D i; its block is G i; its right operand lies in Q i. -/
structure Tree (w : World) (ls : Bool) (rs : List Int) (D : Nat → Value) (G Q : Nat → Nat) (m : Nat) : Prop where
  z : Opd w (if ls then 1 else -1) (Q 0) (D 0)
  s : ∀ i, i < m → D (i + 1) = .iface 39 (ptr (G (i + 1))) ∧ ∃ dr, Opd w (rs.getD i 0) (Q (i + 1)) dr ∧ Bk w (G (i + 1)) 43 (binCells (D i) (loc i) dr (2 * ((i : Int) + 1)))
theorem Tree.move {w w' : World} {ls : Bool} {rs : List Int} {D : Nat → Value} {G Q : Nat → Nat} {m : Nat} (h : Tree w ls rs D G Q m) (hk : ∀ q t cs, (t = 56 ∨ t = 50 ∨ t = 43) → Bk w q t cs → Bk w' q t cs) : Tree w' ls rs D G Q m :=
  ⟨h.z.move fun t cs ht => hk _ t cs (by rcases ht with h | h <;> simp [h]), fun i hi => by
    obtain ⟨h1, dr, h2, h3⟩ := h.s i hi
    exact ⟨h1, dr, h2.move (fun t cs ht => hk _ t cs (by rcases ht with h | h <;> simp [h])), hk _ _ _ (by simp) h3⟩⟩
theorem Tree.later {w w' : World} {ls : Bool} {rs : List Int} {D : Nat → Value} {G Q : Nat → Nat} {m : Nat} (h : Tree w ls rs D G Q m) (hb : Below w.heap.size w w') : Tree w' ls rs D G Q m :=
  h.move fun _ _ _ _ h => h.later hb
theorem Tree.less {w : World} {ls : Bool} {rs : List Int} {D : Nat → Value} {G Q : Nat → Nat} {m k : Nat} (h : Tree w ls rs D G Q m) (hk : k ≤ m) : Tree w ls rs D G Q k :=
  ⟨h.z, fun i hi => h.s i (by omega)⟩
/-- A pointer in an interface, to a block that is known. -/
def Shp (w : World) (d : Value) : Prop := ∃ T g t cs, d = .iface T (ptr g) ∧ Bk w g t cs ∧ (T = 44 ∨ T = 46 ∨ T = 39)
theorem Opd.shape {w : World} {r : Int} {q : Nat} {d : Value} (h : Opd w r q d) : Shp w d := by
  rcases h with ⟨h1, h2, cs, h3⟩ | ⟨h1, h2, A, n, c, a, b, e, f, h3, h4⟩
  · exact ⟨_, _, _, _, h2, h3, .inl rfl⟩
  · exact ⟨_, _, _, _, h2, h4, .inr (.inl rfl)⟩
theorem Tree.shape {w : World} {ls : Bool} {rs : List Int} {D : Nat → Value} {G Q : Nat → Nat} {m : Nat} (h : Tree w ls rs D G Q m) : Shp w (D m) := by
  cases m with
  | zero => exact h.z.shape
  | succ m =>
    obtain ⟨h1, dr, h2, h3⟩ := h.s m (by omega)
    exact ⟨_, _, _, _, h1, h3, .inr (.inr rfl)⟩
/-- Is there a non-empty string among the operands 0 .. i? -/
def st (ls : Bool) (rs : List Int) : Nat → Bool
  | 0 => ls
  | i + 1 => st ls rs i || decide (0 < rs.getD i 0)
/-- What the function makes of the chain up to node i, where a string is among its operands; what is new lies from block B on. -/
def Ch (w : World) (B : Nat) (ls : Bool) (rs : List Int) (D : Nat → Value) (Q : Nat → Nat) : Nat → Value → Int → Prop
  | 0, d, l => ∃ g A c a b e f, d = .iface 46 (ptr g) ∧ l = 0 ∧ B ≤ g ∧ Bk w g 50 #[.slice A 0 c, a, b, e, f]
  | i + 1, d, l =>
    (st ls rs i = true ∧ rs.getD i 0 < 0 ∧ ∃ g dl ll, d = .iface 39 (ptr g) ∧ l = loc (i + 1) ∧ B ≤ g ∧ Bk w g 43 (binCells dl ll (.iface 44 (ptr (Q (i + 1)))) (2 * ((i : Int) + 1))) ∧ Ch w B ls rs D Q i dl ll) ∨
    (st ls rs i = true ∧ 0 ≤ rs.getD i 0 ∧ Ch w B ls rs D Q i d l) ∨
    (st ls rs i = false ∧ 0 < rs.getD i 0 ∧ ∃ g h A c a b e f, d = .iface 39 (ptr g) ∧ l = loc (i + 1) ∧ B ≤ g ∧ Bk w g 43 (binCells (D i) (loc i) (.iface 46 (ptr h)) (2 * ((i : Int) + 1))) ∧ Bk w h 50 #[.slice A 0 c, a, b, e, f])
theorem Ch.move {w w' : World} {B B' : Nat} {ls : Bool} {rs : List Int} {D : Nat → Value} {Q : Nat → Nat} (hB : B' ≤ B) (hk : ∀ q t cs, (t = 56 ∨ t = 50 ∨ t = 43) → Bk w q t cs → Bk w' q t cs) : ∀ {i : Nat} {d : Value} {l : Int}, Ch w B ls rs D Q i d l → Ch w' B' ls rs D Q i d l := by
  intro i
  induction i with
  | zero => rintro d l ⟨g, A, c, a, b, e, f, h1, h2, h3, h4⟩; exact ⟨g, A, c, a, b, e, f, h1, h2, by omega, hk _ _ _ (by simp) h4⟩
  | succ i ih =>
    rintro d l (⟨h1, h2, g, dl, ll, h3, h4, h5, h6, h7⟩ | ⟨h1, h2, h3⟩ | ⟨h1, h2, g, h, A, c, a, b, e, f, h3, h4, h5, h6, h7⟩)
    · exact .inl ⟨h1, h2, g, dl, ll, h3, h4, by omega, hk _ _ _ (by simp) h6, ih h7⟩
    · exact .inr (.inl ⟨h1, h2, ih h3⟩)
    · exact .inr (.inr ⟨h1, h2, g, h, A, c, a, b, e, f, h3, h4, by omega, hk _ _ _ (by simp) h6, hk _ _ _ (by simp) h7⟩)
theorem Ch.later {w w' : World} {B : Nat} {ls : Bool} {rs : List Int} {D : Nat → Value} {Q : Nat → Nat} (hb : Below w.heap.size w w') {i : Nat} {d : Value} {l : Int} (h : Ch w B ls rs D Q i d l) : Ch w' B ls rs D Q i d l := h.move (Nat.le_refl _) fun _ _ _ _ h => h.later hb
theorem Ch.shape {w : World} {B : Nat} {ls : Bool} {rs : List Int} {D : Nat → Value} {Q : Nat → Nat} : ∀ {i : Nat} {d : Value} {l : Int}, Ch w B ls rs D Q i d l → ∃ T g t cs, d = .iface T (ptr g) ∧ B ≤ g ∧ Bk w g t cs ∧ (T = 44 ∨ T = 46 ∨ T = 39) := by
  intro i
  induction i with
  | zero => rintro d l ⟨g, A, c, a, b, e, f, h1, h2, h3, h4⟩; exact ⟨_, _, _, _, h1, h3, h4, .inr (.inl rfl)⟩
  | succ i ih =>
    rintro d l (⟨h1, h2, g, dl, ll, h3, h4, h5, h6, h7⟩ | ⟨h1, h2, h3⟩ | ⟨h1, h2, g, h, A, c, a, b, e, f, h3, h4, h5, h6, h7⟩)
    · exact ⟨_, _, _, _, h3, h5, h6, .inr (.inr rfl)⟩
    · exact ih h3
    · exact ⟨_, _, _, _, h3, h5, h6, .inr (.inr rfl)⟩
theorem Bk.set {w : World} {g b o : Nat} {t : TypeId} {cs : Array Value} {v : Value} (h : Bk w g t cs) (hn : g ≠ b) : Bk (w.setCell ⟨b, o, none⟩ v) g t cs := by
  unfold Bk at *; rw [Below.heap_setCell _ _ _ _ hn]; exact h
theorem Bk.alloc {w : World} {g : Nat} {t : TypeId} {cs : Array Value} (h : Bk w g t cs) (o : Obj) : Bk (w.alloc o) g t cs := h.later ((Below.refl _ _).alloc (Nat.le_refl _) _)
theorem Bk.drew {w : World} {g : Nat} {t : TypeId} {cs : Array Value} (h : Bk w g t cs) : Bk w.drew g t cs := h
theorem Bk.drewN {w : World} {g : Nat} {t : TypeId} {cs : Array Value} (h : Bk w g t cs) (n : Nat) : Bk (w.drewN n) g t cs := h
theorem fieldsX : Try.prog.underlying 34 = some (.struct (Try.prog.fieldsOf 34)) := by kernel_rfl
theorem fieldsL : Try.prog.underlying 32 = some (.struct (Try.prog.fieldsOf 32)) := by kernel_rfl
theorem heldX : Try.prog.stoodInHeld 34 = false := by kernel_rfl
theorem heldL : Try.prog.stoodInHeld 32 = false := by kernel_rfl
theorem fieldsX' : (Try.prog.fieldsOf 34).toList.map (fun f => (f.name, f.type, f.offset)) = [("Data", 30, 0), ("Loc", 32, 1)] := by kernel_rfl
theorem fieldsL' : (Try.prog.fieldsOf 32).toList.map (fun f => (f.name, f.type, f.offset)) = [("Start", 21, 0)] := by kernel_rfl
theorem two_of_map {l : List Field} {n0 n1 : String} {t0 t1 : TypeId} {o0 o1 : Nat} (h : l.map (fun f => (f.name, f.type, f.offset)) = [(n0, t0, o0), (n1, t1, o1)]) : ∃ f0 f1, l = [f0, f1] ∧ f0.name = n0 ∧ f0.type = t0 ∧ f0.offset = o0 ∧ f1.name = n1 ∧ f1.type = t1 ∧ f1.offset = o1 := by
  match l, h with
  | [f0, f1], h => simp at h; exact ⟨f0, f1, rfl, h.1.1, h.1.2.1, h.1.2.2, h.2.1, h.2.2.1, h.2.2.2⟩
theorem one_of_map {l : List Field} {n0 : String} {t0 : TypeId} {o0 : Nat} (h : l.map (fun f => (f.name, f.type, f.offset)) = [(n0, t0, o0)]) : ∃ f0, l = [f0] ∧ f0.name = n0 ∧ f0.type = t0 ∧ f0.offset = o0 := by
  match l, h with
  | [f0], h => simp at h; exact ⟨f0, rfl, h.1, h.2.1, h.2.2⟩
/-- But for block R, what was there is as it was. -/
def Kp (R : Nat) (w w' : World) : Prop := w.heap.size ≤ w'.heap.size ∧ ∀ b, b < w.heap.size → b ≠ R → w'.heap[b]? = w.heap[b]?
theorem Kp.refl (R : Nat) (w : World) : Kp R w w := ⟨Nat.le_refl _, fun _ _ _ => rfl⟩
theorem Kp.drew {R : Nat} {w w' : World} (h : Kp R w w') : Kp R w w'.drew := h
theorem Kp.alloc {R : Nat} {w w' : World} (h : Kp R w w') (o : Obj) : Kp R w (w'.alloc o) := ⟨by have := h.1; simp; omega, fun b hb hn => (Below.heap_alloc _ _ _ (by have := h.1; omega)).trans (h.2 b hb hn)⟩
theorem Kp.set {R : Nat} {w w' : World} (h : Kp R w w') (o : Nat) (v : Value) : Kp R w (w'.setCell ⟨R, o, none⟩ v) := ⟨by have := h.1; simpa using this, fun b hb hn => (Below.heap_setCell _ _ _ _ hn).trans (h.2 b hb hn)⟩
theorem Kp.cell {R : Nat} {w w' : World} (h : Kp R w w') {b o : Nat} {v : Value} (hn : b ≠ R) (hc : w.cell? ⟨b, o, none⟩ = some v) : w'.cell? ⟨b, o, none⟩ = some v := by
  have hb : b < w.heap.size := by
    rcases Nat.lt_or_ge b w.heap.size with hlt | hge
    · exact hlt
    · simp [World.cell?, Array.getElem?_eq_none hge] at hc
  rw [← hc]; simp [World.cell?, h.2 b hb hn]
theorem Kp.bk {R : Nat} {w w' : World} (h : Kp R w w') {b : Nat} {t : TypeId} {cs : Array Value} (hn : b ≠ R) (hc : Bk w b t cs) : Bk w' b t cs := (h.2 b hc.lt hn).trans hc

end Go.Proofs.Ytbmmmgccmkompad
