/-
  Lemmas shared by several laws of this seat; no statement of their own.
-/
import Derived.Test.YthcjcafillcikabRows
import Derived.WalkKit
import Derived.ProofKit
import Derived.OpenShut
import Derived.Test.YthcjcafillcikabSlW
import Derived.Test.YthcjcafillcikabExtW
import Derived.WalkLawsBesides
import Derived.WalkSpells
import Derived.Below
import Derived.Lib.Hide
import Derived.LoopTactic
namespace Go.Proofs.Ythcjcafillcikab
open Go.ChangeShapes Go.WideShapes Go.ChangeAt Go.RowKit

set_option linter.unusedVariables false

theorem ta_ptr {P : Program} (t s T e : TypeId) (v : Value) (w : World) (hu : P.underlying T = some (.pointer e)) (hz : (zeroValue T).run P w = .ok (.pointer none) w) :
    (Instr.typeAssert (.iface t v) s T true).run P w = .ok (if t = T then .tuple #[v, .bool true] else .tuple #[.pointer none, .bool false]) w := by
  by_cases h : t = T <;> simp [Instr.typeAssert, run_underlying hu, hz, h]
theorem ta_nil {P : Program} (s T e : TypeId) (w : World) (hu : P.underlying T = some (.pointer e)) (hz : (zeroValue T).run P w = .ok (.pointer none) w) :
    (Instr.typeAssert .nilIface s T true).run P w = .ok (.tuple #[.pointer none, .bool false]) w := by
  simp [Instr.typeAssert, run_underlying hu, hz]
theorem ta44 (t : TypeId) (v : Value) (s : TypeId) (w : World) : (Instr.typeAssert (.iface t v) s 44 true).run Try.prog w = .ok (if t = 44 then .tuple #[v, .bool true] else .tuple #[.pointer none, .bool false]) w := ta_ptr t s 44 _ v w Try.underlying44 (by kernel_rfl)
theorem tn44 (s : TypeId) (w : World) : (Instr.typeAssert .nilIface s 44 true).run Try.prog w = .ok (.tuple #[.pointer none, .bool false]) w := ta_nil s 44 _ w Try.underlying44 (by kernel_rfl)
theorem ta48 (t : TypeId) (v : Value) (s : TypeId) (w : World) : (Instr.typeAssert (.iface t v) s 48 true).run Try.prog w = .ok (if t = 48 then .tuple #[v, .bool true] else .tuple #[.pointer none, .bool false]) w := ta_ptr t s 48 _ v w Try.underlying48 (by kernel_rfl)
theorem tn48 (s : TypeId) (w : World) : (Instr.typeAssert .nilIface s 48 true).run Try.prog w = .ok (.tuple #[.pointer none, .bool false]) w := ta_nil s 48 _ w Try.underlying48 (by kernel_rfl)
theorem ta51 (t : TypeId) (v : Value) (s : TypeId) (w : World) : (Instr.typeAssert (.iface t v) s 51 true).run Try.prog w = .ok (if t = 51 then .tuple #[v, .bool true] else .tuple #[.pointer none, .bool false]) w := ta_ptr t s 51 _ v w Try.underlying51 (by kernel_rfl)
theorem tn51 (s : TypeId) (w : World) : (Instr.typeAssert .nilIface s 51 true).run Try.prog w = .ok (.tuple #[.pointer none, .bool false]) w := ta_nil s 51 _ w Try.underlying51 (by kernel_rfl)
theorem ta54 (t : TypeId) (v : Value) (s : TypeId) (w : World) : (Instr.typeAssert (.iface t v) s 54 true).run Try.prog w = .ok (if t = 54 then .tuple #[v, .bool true] else .tuple #[.pointer none, .bool false]) w := ta_ptr t s 54 _ v w Try.underlying54 (by kernel_rfl)
theorem tn54 (s : TypeId) (w : World) : (Instr.typeAssert .nilIface s 54 true).run Try.prog w = .ok (.tuple #[.pointer none, .bool false]) w := ta_nil s 54 _ w Try.underlying54 (by kernel_rfl)
attribute [go_sem] ta44 tn44 ta48 tn48 ta51 tn51 ta54 tn54
/-- In every later world that keeps the blocks outside X, extractStringValue(d) answers (the slice, ok). -/
def Sv (X : Nat → Prop) (w : World) (d : Value) (A : Option Addr) (n c : Nat) (ok : Bool) : Prop := ∀ w1, Ext X w w1 → Calls Try.prog 20 #[d] w1 fun e w' => e = .returned (.tuple #[.slice A n c, .bool ok]) ∧ w1 = w'
theorem Sv.later {X : Nat → Prop} {w w2 : World} {d : Value} {A : Option Addr} {n c : Nat} {ok : Bool} (h : Sv X w d A n c ok) (he : Ext X w w2) : Sv X w2 d A n c ok := fun w1 h1 => h w1 (he.trans h1)
theorem Sv.mono {X Y : Nat → Prop} {w : World} {d : Value} {A : Option Addr} {n c : Nat} {ok : Bool} (h : Sv Y w d A n c ok) (hxy : ∀ b, b < w.heap.size → X b → Y b) : Sv X w d A n c ok := fun w1 h1 => h w1 (h1.mono hxy)
set_option maxRecDepth 100000 in
theorem sv_num (X : Nat → Prop) (w : World) (v : Value) : Sv X w (.iface 54 v) none 0 0 false := fun w1 _ => by
  go_enter Try.func20, Try.ntmps20
  go_wp2_with fail
  go_ret2
  exact ⟨rfl, rfl⟩
set_option maxRecDepth 100000 in
theorem sv_str (X : Nat → Prop) (w : World) (b : Nat) (A : Option Addr) (n c : Nat) (hb : b < w.heap.size) (hx : ¬ X b) (h0 : w.cell? ⟨b, 0, none⟩ = some (.slice A n c)) :
    Sv X w (.iface 51 (.pointer (some ⟨b, 0, none⟩))) A n c true := fun w1 h1 => by
  have c0 : w1.cell? ⟨b, 0, none⟩ = some (.slice A n c) := by rw [h1.2 b 0 hb hx]; exact h0
  clear h0 h1
  go_enter Try.func20, Try.ntmps20
  go_wp2_with fail
  go_ret2
  exact ⟨rfl, rfl⟩
set_option maxRecDepth 100000 in
theorem sv_EAnnotation (X : Nat → Prop) (w : World) (b : Nat) (d : Value) (A : Option Addr) (n c : Nat) (ok : Bool) (hb : b < w.heap.size) (hx : ¬ X b) (h0 : w.cell? ⟨b, 0, none⟩ = some d) (g : Sv X w d A n c ok) :
    Sv X w (.iface 44 (.pointer (some ⟨b, 0, none⟩))) A n c ok := fun w1 h1 => by
  have K := Lib.hid (g w1 h1)
  have c0 : w1.cell? ⟨b, 0, none⟩ = some d := by rw [h1.2 b 0 hb hx]; exact h0
  clear g h0 h1
  go_enter Try.func20, Try.ntmps20
  go_wp2_with fail
  refine K.out.mono ?_
  rintro e w2 ⟨rfl, rfl⟩
  go_wp2_with fail
  go_ret2
  exact ⟨rfl, rfl⟩
set_option maxRecDepth 100000 in
theorem sv_EInlinedEnum (X : Nat → Prop) (w : World) (b : Nat) (d : Value) (A : Option Addr) (n c : Nat) (ok : Bool) (hb : b < w.heap.size) (hx : ¬ X b) (h0 : w.cell? ⟨b, 0, none⟩ = some d) (g : Sv X w d A n c ok) :
    Sv X w (.iface 48 (.pointer (some ⟨b, 0, none⟩))) A n c ok := fun w1 h1 => by
  have K := Lib.hid (g w1 h1)
  have c0 : w1.cell? ⟨b, 0, none⟩ = some d := by rw [h1.2 b 0 hb hx]; exact h0
  clear g h0 h1
  go_enter Try.func20, Try.ntmps20
  go_wp2_with fail
  refine K.out.mono ?_
  rintro e w2 ⟨rfl, rfl⟩
  go_wp2_with fail
  go_ret2
  exact ⟨rfl, rfl⟩
def boxes (B : Nat) : Nat → Prop := fun b => b = B ∨ b = B + 1
def Wrapped (A : Option Addr) (n c : Nat) (ok : Bool) (w : World) (e : Ending) (w' : World) : Prop := ∃ T v, e = .returned (.agg #[.iface T v, .int .i32 0]) ∧ Sv (fun _ => False) w' (.iface T v) A n c ok ∧ Below w.heap.size w w'
theorem leaf_any (isStr : Bool) (A : Option Addr) (n c : Nat) (f : Nat) (w : World) : Calls Try.prog 10 #[.bool isStr, .slice A n c, .float .f64 f] w (if isStr then Wrapped A n c true w else Wrapped none 0 0 false w) := by
  cases isStr
  · show Calls _ _ _ _ (Wrapped none 0 0 false w)
    go_enter Try.func10, Try.ntmps10
    go_wp2_with fail
    refine bodyPost_ret (v := .agg #[.iface 54 (.pointer (some ⟨w.heap.size + 1, 0, none⟩)), .int .i32 0]) (by simp [results, Try.results10, go_sem]) rfl ⟨_, _, rfl, sv_num _ _ _, ?_⟩
    exact ((Below.refl _ _).alloc (Nat.le_refl _) _).alloc (by simp) _
  · show Calls _ _ _ _ (Wrapped A n c true w)
    go_enter Try.func10, Try.ntmps10
    go_wp2_with fail
    refine bodyPost_ret (v := .agg #[.iface 51 (.pointer (some ⟨w.heap.size + 1, 0, none⟩)), .int .i32 0]) (by simp [results, Try.results10, go_sem]) rfl ⟨_, _, rfl, sv_str _ _ _ A n c (by simp) (fun h => h) (by simp [go_sem]), ?_⟩
    exact ((Below.refl _ _).alloc (Nat.le_refl _) _).alloc (by simp) _
structure WRel (w : World) (A : Option Addr) (n c : Nat) (ok : Bool) (d : Value) (wr : World) : Prop where
  c0 : wr.cell? ⟨w.heap.size, 0, none⟩ = some d
  c1 : wr.cell? ⟨w.heap.size, 1, none⟩ = some (.int .i32 0)
  f0 : wr.frozen? ⟨w.heap.size, 0, none⟩ = false
  f1 : wr.frozen? ⟨w.heap.size, 1, none⟩ = false
  r0 : wr.cell? ⟨w.heap.size + 1, 0, none⟩ = some .nilIface
  r1 : wr.cell? ⟨w.heap.size + 1, 1, none⟩ = some (.int .i32 0)
  g0 : wr.frozen? ⟨w.heap.size + 1, 0, none⟩ = false
  g1 : wr.frozen? ⟨w.heap.size + 1, 1, none⟩ = false
  gd : Sv (boxes w.heap.size) wr d A n c ok
  bl : Below w.heap.size w wr
  sz : w.heap.size + 1 < wr.heap.size
set_option maxHeartbeats 2000000 in
theorem wrap_any (T0 : TypeId) (v0 : Value) (A : Option Addr) (n c : Nat) (ok : Bool) (D : Option Addr) (m e : Nat) (bs : List Bool) (w : World) (hs : Sl w w.heap.size D m (bs.map Value.bool)) (hm : m ≤ big20) (g : Sv (fun _ => False) w (.iface T0 v0) A n c ok) :
    Calls Try.prog 9 #[.agg #[.iface T0 v0, .int .i32 0], .slice D m e] w (Wrapped A n c ok w) := by
  have G := Lib.hid g
  clear g
  have hmb : m ≤ 9223372036854775807 := by have := big20_le hm; omega
  go_enter Try.func9, Try.ntmps9
  go_wp2_with fail
  go_loopw [5] (fun i wr => ∃ k : Nat, k ≤ m ∧ i = .int .i64 ((k : Int) - 1) ∧ ∃ T v, WRel w A n c ok (.iface T v) wr) (fun i _ => (intOf i + 1).toNat)
  case atStart =>
    refine ⟨m, by omega, rfl, T0, v0, ?_⟩
    constructor
    · simp [go_sem]
    · simp [go_sem]
    · simp [go_sem]
    · simp [go_sem]
    · simp [go_sem]
    · simp [go_sem]
    · simp [go_sem]
    · simp [go_sem]
    · exact (G.out.mono (X := boxes w.heap.size) (fun b hb hx => by unfold boxes at hx; omega)).later (ext_of_below (((Below.refl _ _).alloc (Nat.le_refl _) _).alloc (by simp) _))
    · exact ((Below.refl _ _).alloc (Nat.le_refl _) _).alloc (by simp) _
    · simp
  case round =>
    obtain ⟨k0, hk, rfl, T, v, hR⟩ := hrel
    obtain ⟨c0, c1, f0, f1, r0, r1, g0, g1, gd, bl, sz⟩ := hR
    have GD := Lib.hid gd
    have BL := Lib.hid bl
    clear gd bl
    have sz0 : w.heap.size < wr.heap.size := by omega
    rcases k0 with _ | k
    · go_wp2_with fail
      refine bodyPost_ret (v := .agg #[.iface T v, .int .i32 0]) (by simp [results, Try.results9, go_sem, r0, r1]) rfl ⟨T, v, rfl, ?_, ?_⟩
      · exact (GD.out.later ((ext_set (X := boxes w.heap.size) wr (w.heap.size + 1) 0 _ (.inr rfl)).trans (ext_set _ (w.heap.size + 1) 1 _ (.inr rfl)))).mono (fun _ _ h => h.elim)
      · exact (BL.out.setCell (by simp) _).setCell (by simp) _
    · obtain ⟨b1, o1, u1, rfl, hb1, hu1, hc1⟩ := hs.at_ (k := k) (by omega)
      obtain ⟨x, hx, rfl⟩ : ∃ x, bs[k]? = some x ∧ Value.bool x = u1 := by simpa using hu1
      have e1 : ((k + 1 : Nat) : Int) - 1 = (k : Int) := by omega
      have q1 : wr.cell? ⟨b1, o1 + k, none⟩ = some (.bool x) := by rw [BL.out.cell (p := ⟨b1, o1 + k, none⟩) hb1]; exact hc1
      clear hx hu1 hc1
      rw [e1]
      clear e1
      have hk' : (k : Int) < m := by omega
      cases x
      ·
        go_wp2_with fail
        go_roundw
        case rel =>
          refine ⟨k, by omega, by go_num, 48, .pointer (some ⟨wr.heap.size, 0, none⟩), ?_⟩
          have hgd : Sv (boxes w.heap.size) _ (.iface T v) A n c ok := GD.out.later (((ext_set (X := boxes w.heap.size) wr w.heap.size 0 (.iface 48 (.pointer (some ⟨wr.heap.size, 0, none⟩))) (.inl rfl)).trans (ext_set _ w.heap.size 1 (.int .i32 0) (.inl rfl))).trans (ext_alloc _ (.cells #[.iface T v, .int .i32 0, .string ⟨#[]⟩] 50)))
          constructor
          · simp [go_sem, c0, sz0]
          · simp [go_sem, c1, sz0]
          · simp [go_sem, f0, sz0]
          · simp [go_sem, f1, sz0]
          · simp [go_sem, r0, sz]
          · simp [go_sem, r1, sz]
          · simp [go_sem, g0, sz]
          · simp [go_sem, g1, sz]
          · exact sv_EInlinedEnum _ _ wr.heap.size (.iface T v) A n c ok (by simp) (by unfold boxes; omega) (by simp [go_sem]) hgd
          · exact ((BL.out.setCell (by simp) _).setCell (by simp) _).alloc (by simp; omega) _
          · simp; omega
        case measure => simp [intOf]
      ·
        go_wp2_with fail
        go_roundw
        case rel =>
          refine ⟨k, by omega, by go_num, 44, .pointer (some ⟨wr.heap.size, 0, none⟩), ?_⟩
          have hgd : Sv (boxes w.heap.size) _ (.iface T v) A n c ok := GD.out.later (((ext_set (X := boxes w.heap.size) wr w.heap.size 0 (.iface 44 (.pointer (some ⟨wr.heap.size, 0, none⟩))) (.inl rfl)).trans (ext_set _ w.heap.size 1 (.int .i32 0) (.inl rfl))).trans (ext_alloc _ (.cells #[.iface T v, .int .i32 0, .int .u8 0] 47)))
          constructor
          · simp [go_sem, c0, sz0]
          · simp [go_sem, c1, sz0]
          · simp [go_sem, f0, sz0]
          · simp [go_sem, f1, sz0]
          · simp [go_sem, r0, sz]
          · simp [go_sem, r1, sz]
          · simp [go_sem, g0, sz]
          · simp [go_sem, g1, sz]
          · exact sv_EAnnotation _ _ wr.heap.size (.iface T v) A n c ok (by simp) (by unfold boxes; omega) (by simp [go_sem]) hgd
          · exact ((BL.out.setCell (by simp) _).setCell (by simp) _).alloc (by simp; omega) _
          · simp; omega
        case measure => simp [intOf]

end Go.Proofs.Ythcjcafillcikab
