/-
  Lemmas shared by several laws of this seat; no statement of their own.
-/
import Derived.Test.YtgnlfkophffaoaeRows
import Derived.WalkKit
import Derived.ProofKit
import Derived.OpenShut
import Derived.Test.YtgnlfkophffaoaeSlW
import Derived.WalkLawsBesides
import Derived.WalkSpells
import Derived.Below
import Derived.Lib.Hide
import Derived.Outline
namespace Go.Proofs.Ytgnlfkophffaoae
open Go.ChangeShapes Go.WideShapes Go.ChangeAt Go.RowKit

set_option linter.unusedVariables false

theorem ta_ptr {P : Program} (t s T e : TypeId) (v : Value) (w : World) (hu : P.underlying T = some (.pointer e)) (hz : (zeroValue T).run P w = .ok (.pointer none) w) :
    (Instr.typeAssert (.iface t v) s T true).run P w = .ok (if t = T then .tuple #[v, .bool true] else .tuple #[.pointer none, .bool false]) w := by
  by_cases h : t = T <;> simp [Instr.typeAssert, run_underlying hu, hz, h]
theorem ta_nil {P : Program} (s T e : TypeId) (w : World) (hu : P.underlying T = some (.pointer e)) (hz : (zeroValue T).run P w = .ok (.pointer none) w) :
    (Instr.typeAssert .nilIface s T true).run P w = .ok (.tuple #[.pointer none, .bool false]) w := by
  simp [Instr.typeAssert, run_underlying hu, hz]
theorem ta31 (t : TypeId) (v : Value) (s : TypeId) (w : World) : (Instr.typeAssert (.iface t v) s 31 true).run Try.prog w = .ok (if t = 31 then .tuple #[v, .bool true] else .tuple #[.pointer none, .bool false]) w := ta_ptr t s 31 _ v w Try.underlying31 (by kernel_rfl)
theorem tn31 (s : TypeId) (w : World) : (Instr.typeAssert .nilIface s 31 true).run Try.prog w = .ok (.tuple #[.pointer none, .bool false]) w := ta_nil s 31 _ w Try.underlying31 (by kernel_rfl)
theorem ta34 (t : TypeId) (v : Value) (s : TypeId) (w : World) : (Instr.typeAssert (.iface t v) s 34 true).run Try.prog w = .ok (if t = 34 then .tuple #[v, .bool true] else .tuple #[.pointer none, .bool false]) w := ta_ptr t s 34 _ v w Try.underlying34 (by kernel_rfl)
theorem tn34 (s : TypeId) (w : World) : (Instr.typeAssert .nilIface s 34 true).run Try.prog w = .ok (.tuple #[.pointer none, .bool false]) w := ta_nil s 34 _ w Try.underlying34 (by kernel_rfl)
theorem ta36 (t : TypeId) (v : Value) (s : TypeId) (w : World) : (Instr.typeAssert (.iface t v) s 36 true).run Try.prog w = .ok (if t = 36 then .tuple #[v, .bool true] else .tuple #[.pointer none, .bool false]) w := ta_ptr t s 36 _ v w Try.underlying36 (by kernel_rfl)
theorem tn36 (s : TypeId) (w : World) : (Instr.typeAssert .nilIface s 36 true).run Try.prog w = .ok (.tuple #[.pointer none, .bool false]) w := ta_nil s 36 _ w Try.underlying36 (by kernel_rfl)
theorem ta39 (t : TypeId) (v : Value) (s : TypeId) (w : World) : (Instr.typeAssert (.iface t v) s 39 true).run Try.prog w = .ok (if t = 39 then .tuple #[v, .bool true] else .tuple #[.pointer none, .bool false]) w := ta_ptr t s 39 _ v w Try.underlying39 (by kernel_rfl)
theorem tn39 (s : TypeId) (w : World) : (Instr.typeAssert .nilIface s 39 true).run Try.prog w = .ok (.tuple #[.pointer none, .bool false]) w := ta_nil s 39 _ w Try.underlying39 (by kernel_rfl)
theorem ta43 (t : TypeId) (v : Value) (s : TypeId) (w : World) : (Instr.typeAssert (.iface t v) s 43 true).run Try.prog w = .ok (if t = 43 then .tuple #[v, .bool true] else .tuple #[.pointer none, .bool false]) w := ta_ptr t s 43 _ v w Try.underlying43 (by kernel_rfl)
theorem tn43 (s : TypeId) (w : World) : (Instr.typeAssert .nilIface s 43 true).run Try.prog w = .ok (.tuple #[.pointer none, .bool false]) w := ta_nil s 43 _ w Try.underlying43 (by kernel_rfl)
theorem ta49 (t : TypeId) (v : Value) (s : TypeId) (w : World) : (Instr.typeAssert (.iface t v) s 49 true).run Try.prog w = .ok (if t = 49 then .tuple #[v, .bool true] else .tuple #[.pointer none, .bool false]) w := ta_ptr t s 49 _ v w Try.underlying49 (by kernel_rfl)
theorem tn49 (s : TypeId) (w : World) : (Instr.typeAssert .nilIface s 49 true).run Try.prog w = .ok (.tuple #[.pointer none, .bool false]) w := ta_nil s 49 _ w Try.underlying49 (by kernel_rfl)
theorem ta52 (t : TypeId) (v : Value) (s : TypeId) (w : World) : (Instr.typeAssert (.iface t v) s 52 true).run Try.prog w = .ok (if t = 52 then .tuple #[v, .bool true] else .tuple #[.pointer none, .bool false]) w := ta_ptr t s 52 _ v w Try.underlying52 (by kernel_rfl)
theorem tn52 (s : TypeId) (w : World) : (Instr.typeAssert .nilIface s 52 true).run Try.prog w = .ok (.tuple #[.pointer none, .bool false]) w := ta_nil s 52 _ w Try.underlying52 (by kernel_rfl)
theorem ta67 (t : TypeId) (v : Value) (s : TypeId) (w : World) : (Instr.typeAssert (.iface t v) s 67 true).run Try.prog w = .ok (if t = 67 then .tuple #[v, .bool true] else .tuple #[.pointer none, .bool false]) w := ta_ptr t s 67 _ v w Try.underlying67 (by kernel_rfl)
theorem tn67 (s : TypeId) (w : World) : (Instr.typeAssert .nilIface s 67 true).run Try.prog w = .ok (.tuple #[.pointer none, .bool false]) w := ta_nil s 67 _ w Try.underlying67 (by kernel_rfl)
theorem ta70 (t : TypeId) (v : Value) (s : TypeId) (w : World) : (Instr.typeAssert (.iface t v) s 70 true).run Try.prog w = .ok (if t = 70 then .tuple #[v, .bool true] else .tuple #[.pointer none, .bool false]) w := ta_ptr t s 70 _ v w Try.underlying70 (by kernel_rfl)
theorem tn70 (s : TypeId) (w : World) : (Instr.typeAssert .nilIface s 70 true).run Try.prog w = .ok (.tuple #[.pointer none, .bool false]) w := ta_nil s 70 _ w Try.underlying70 (by kernel_rfl)
theorem ta72 (t : TypeId) (v : Value) (s : TypeId) (w : World) : (Instr.typeAssert (.iface t v) s 72 true).run Try.prog w = .ok (if t = 72 then .tuple #[v, .bool true] else .tuple #[.pointer none, .bool false]) w := ta_ptr t s 72 _ v w Try.underlying72 (by kernel_rfl)
theorem tn72 (s : TypeId) (w : World) : (Instr.typeAssert .nilIface s 72 true).run Try.prog w = .ok (.tuple #[.pointer none, .bool false]) w := ta_nil s 72 _ w Try.underlying72 (by kernel_rfl)
theorem ta76 (t : TypeId) (v : Value) (s : TypeId) (w : World) : (Instr.typeAssert (.iface t v) s 76 true).run Try.prog w = .ok (if t = 76 then .tuple #[v, .bool true] else .tuple #[.pointer none, .bool false]) w := ta_ptr t s 76 _ v w Try.underlying76 (by kernel_rfl)
theorem tn76 (s : TypeId) (w : World) : (Instr.typeAssert .nilIface s 76 true).run Try.prog w = .ok (.tuple #[.pointer none, .bool false]) w := ta_nil s 76 _ w Try.underlying76 (by kernel_rfl)
theorem ta80 (t : TypeId) (v : Value) (s : TypeId) (w : World) : (Instr.typeAssert (.iface t v) s 80 true).run Try.prog w = .ok (if t = 80 then .tuple #[v, .bool true] else .tuple #[.pointer none, .bool false]) w := ta_ptr t s 80 _ v w Try.underlying80 (by kernel_rfl)
theorem tn80 (s : TypeId) (w : World) : (Instr.typeAssert .nilIface s 80 true).run Try.prog w = .ok (.tuple #[.pointer none, .bool false]) w := ta_nil s 80 _ w Try.underlying80 (by kernel_rfl)
theorem ta90 (t : TypeId) (v : Value) (s : TypeId) (w : World) : (Instr.typeAssert (.iface t v) s 90 true).run Try.prog w = .ok (if t = 90 then .tuple #[v, .bool true] else .tuple #[.pointer none, .bool false]) w := ta_ptr t s 90 _ v w Try.underlying90 (by kernel_rfl)
theorem tn90 (s : TypeId) (w : World) : (Instr.typeAssert .nilIface s 90 true).run Try.prog w = .ok (.tuple #[.pointer none, .bool false]) w := ta_nil s 90 _ w Try.underlying90 (by kernel_rfl)
theorem ta93 (t : TypeId) (v : Value) (s : TypeId) (w : World) : (Instr.typeAssert (.iface t v) s 93 true).run Try.prog w = .ok (if t = 93 then .tuple #[v, .bool true] else .tuple #[.pointer none, .bool false]) w := ta_ptr t s 93 _ v w Try.underlying93 (by kernel_rfl)
theorem tn93 (s : TypeId) (w : World) : (Instr.typeAssert .nilIface s 93 true).run Try.prog w = .ok (.tuple #[.pointer none, .bool false]) w := ta_nil s 93 _ w Try.underlying93 (by kernel_rfl)
theorem ta97 (t : TypeId) (v : Value) (s : TypeId) (w : World) : (Instr.typeAssert (.iface t v) s 97 true).run Try.prog w = .ok (if t = 97 then .tuple #[v, .bool true] else .tuple #[.pointer none, .bool false]) w := ta_ptr t s 97 _ v w Try.underlying97 (by kernel_rfl)
theorem tn97 (s : TypeId) (w : World) : (Instr.typeAssert .nilIface s 97 true).run Try.prog w = .ok (.tuple #[.pointer none, .bool false]) w := ta_nil s 97 _ w Try.underlying97 (by kernel_rfl)
theorem ta100 (t : TypeId) (v : Value) (s : TypeId) (w : World) : (Instr.typeAssert (.iface t v) s 100 true).run Try.prog w = .ok (if t = 100 then .tuple #[v, .bool true] else .tuple #[.pointer none, .bool false]) w := ta_ptr t s 100 _ v w Try.underlying100 (by kernel_rfl)
theorem tn100 (s : TypeId) (w : World) : (Instr.typeAssert .nilIface s 100 true).run Try.prog w = .ok (.tuple #[.pointer none, .bool false]) w := ta_nil s 100 _ w Try.underlying100 (by kernel_rfl)
theorem ta103 (t : TypeId) (v : Value) (s : TypeId) (w : World) : (Instr.typeAssert (.iface t v) s 103 true).run Try.prog w = .ok (if t = 103 then .tuple #[v, .bool true] else .tuple #[.pointer none, .bool false]) w := ta_ptr t s 103 _ v w Try.underlying103 (by kernel_rfl)
theorem tn103 (s : TypeId) (w : World) : (Instr.typeAssert .nilIface s 103 true).run Try.prog w = .ok (.tuple #[.pointer none, .bool false]) w := ta_nil s 103 _ w Try.underlying103 (by kernel_rfl)
attribute [go_sem] ta31 tn31 ta34 tn34 ta36 tn36 ta39 tn39 ta43 tn43 ta49 tn49 ta52 tn52 ta67 tn67 ta70 tn70 ta72 tn72 ta76 tn76 ta80 tn80 ta90 tn90 ta93 tn93 ta97 tn97 ta100 tn100 ta103 tn103
abbrev Tr := Bool × Int × Bool
def T3 (n : Tr) : Value := .tuple #[.bool n.1, .int .u8 n.2.1, .bool n.2.2]
/-- What the two functions answer on d, in w and in every later world. -/
def TellN (w : World) (d : Value) (n : Tr) : Prop := ∀ w1, Below w.heap.size w w1 → Calls Try.prog 7 #[d] w1 fun e w' => e = .returned (.tuple #[.bool n.1, .int .u8 n.2.1, .bool n.2.2]) ∧ w1 = w'
def TellB (w : World) (d : Value) (n : Tr) : Prop := ∀ w1, Below w.heap.size w w1 → Calls Try.prog 8 #[d] w1 fun e w' => e = .returned (.tuple #[.bool n.1, .int .u8 n.2.1, .bool n.2.2]) ∧ w1 = w'
theorem TellN.later {w w1 : World} {d : Value} {n : Tr} (h : TellN w d n) (hb : Below w.heap.size w w1) : TellN w1 d n := fun w2 h2 => h w2 (hb.trans (h2.mono hb.size))
theorem TellB.later {w w1 : World} {d : Value} {n : Tr} (h : TellB w d n) (hb : Below w.heap.size w w1) : TellB w1 d n := fun w2 h2 => h w2 (hb.trans (h2.mono hb.size))
def Agree (n b : Tr) : Prop := (n.2.2 = true → n.1 = true → b.2.2 = true ∧ b.1 = false) ∧ (n.2.2 = true → b.2.2 = true → n.2.1 = b.2.1)
def Both (w : World) (d : Value) : Prop := ∃ n b, Agree n b ∧ TellN w d n ∧ TellB w d b
theorem Both.later {w w1 : World} {d : Value} (h : Both w d) (hb : Below w.heap.size w w1) : Both w1 d := by
  obtain ⟨n, b, a, h1, h2⟩ := h; exact ⟨n, b, a, h1.later hb, h2.later hb⟩
set_option maxRecDepth 100000 in
theorem n_ENull (v : Value) (w : World) : TellN w (.iface 31 v) (true, 1, true) := fun w1 _ => by
  go_enter Try.func7, Try.ntmps7
  go_wp2_with fail
  go_ret3
  exact ⟨rfl, rfl⟩
set_option maxRecDepth 100000 in
theorem b_ENull (v : Value) (w : World) : TellB w (.iface 31 v) (false, 1, true) := fun w1 _ => by
  go_enter Try.func8, Try.ntmps8
  go_wp2_with fail
  go_ret3
  exact ⟨rfl, rfl⟩
theorem both_ENull (v : Value) (w : World) : Both w (.iface 31 v) := ⟨_, _, ⟨fun h1 h2 => by revert h1 h2; decide, fun h1 h2 => by revert h1 h2; decide⟩, n_ENull v w, b_ENull v w⟩
set_option maxRecDepth 100000 in
theorem n_EUndefined (v : Value) (w : World) : TellN w (.iface 34 v) (true, 1, true) := fun w1 _ => by
  go_enter Try.func7, Try.ntmps7
  go_wp2_with fail
  go_ret3
  exact ⟨rfl, rfl⟩
set_option maxRecDepth 100000 in
theorem b_EUndefined (v : Value) (w : World) : TellB w (.iface 34 v) (false, 1, true) := fun w1 _ => by
  go_enter Try.func8, Try.ntmps8
  go_wp2_with fail
  go_ret3
  exact ⟨rfl, rfl⟩
theorem both_EUndefined (v : Value) (w : World) : Both w (.iface 34 v) := ⟨_, _, ⟨fun h1 h2 => by revert h1 h2; decide, fun h1 h2 => by revert h1 h2; decide⟩, n_EUndefined v w, b_EUndefined v w⟩
set_option maxRecDepth 100000 in
theorem n_ERegExp (v : Value) (w : World) : TellN w (.iface 49 v) (false, 1, true) := fun w1 _ => by
  go_enter Try.func7, Try.ntmps7
  go_wp2_with fail
  go_ret3
  exact ⟨rfl, rfl⟩
set_option maxRecDepth 100000 in
theorem b_ERegExp (v : Value) (w : World) : TellB w (.iface 49 v) (true, 1, true) := fun w1 _ => by
  go_enter Try.func8, Try.ntmps8
  go_wp2_with fail
  go_ret3
  exact ⟨rfl, rfl⟩
theorem both_ERegExp (v : Value) (w : World) : Both w (.iface 49 v) := ⟨_, _, ⟨fun h1 h2 => by revert h1 h2; decide, fun h1 h2 => by revert h1 h2; decide⟩, n_ERegExp v w, b_ERegExp v w⟩
set_option maxRecDepth 100000 in
theorem n_EFunction (v : Value) (w : World) : TellN w (.iface 52 v) (false, 1, true) := fun w1 _ => by
  go_enter Try.func7, Try.ntmps7
  go_wp2_with fail
  go_ret3
  exact ⟨rfl, rfl⟩
set_option maxRecDepth 100000 in
theorem b_EFunction (v : Value) (w : World) : TellB w (.iface 52 v) (true, 1, true) := fun w1 _ => by
  go_enter Try.func8, Try.ntmps8
  go_wp2_with fail
  go_ret3
  exact ⟨rfl, rfl⟩
theorem both_EFunction (v : Value) (w : World) : Both w (.iface 52 v) := ⟨_, _, ⟨fun h1 h2 => by revert h1 h2; decide, fun h1 h2 => by revert h1 h2; decide⟩, n_EFunction v w, b_EFunction v w⟩
set_option maxRecDepth 100000 in
theorem n_EArrow (v : Value) (w : World) : TellN w (.iface 67 v) (false, 1, true) := fun w1 _ => by
  go_enter Try.func7, Try.ntmps7
  go_wp2_with fail
  go_ret3
  exact ⟨rfl, rfl⟩
set_option maxRecDepth 100000 in
theorem b_EArrow (v : Value) (w : World) : TellB w (.iface 67 v) (true, 1, true) := fun w1 _ => by
  go_enter Try.func8, Try.ntmps8
  go_wp2_with fail
  go_ret3
  exact ⟨rfl, rfl⟩
theorem both_EArrow (v : Value) (w : World) : Both w (.iface 67 v) := ⟨_, _, ⟨fun h1 h2 => by revert h1 h2; decide, fun h1 h2 => by revert h1 h2; decide⟩, n_EArrow v w, b_EArrow v w⟩
set_option maxRecDepth 100000 in
theorem n_EObject (v : Value) (w : World) : TellN w (.iface 72 v) (false, 0, true) := fun w1 _ => by
  go_enter Try.func7, Try.ntmps7
  go_wp2_with fail
  go_ret3
  exact ⟨rfl, rfl⟩
set_option maxRecDepth 100000 in
theorem b_EObject (v : Value) (w : World) : TellB w (.iface 72 v) (true, 0, true) := fun w1 _ => by
  go_enter Try.func8, Try.ntmps8
  go_wp2_with fail
  go_ret3
  exact ⟨rfl, rfl⟩
theorem both_EObject (v : Value) (w : World) : Both w (.iface 72 v) := ⟨_, _, ⟨fun h1 h2 => by revert h1 h2; decide, fun h1 h2 => by revert h1 h2; decide⟩, n_EObject v w, b_EObject v w⟩
set_option maxRecDepth 100000 in
theorem n_EArray (v : Value) (w : World) : TellN w (.iface 76 v) (false, 0, true) := fun w1 _ => by
  go_enter Try.func7, Try.ntmps7
  go_wp2_with fail
  go_ret3
  exact ⟨rfl, rfl⟩
set_option maxRecDepth 100000 in
theorem b_EArray (v : Value) (w : World) : TellB w (.iface 76 v) (true, 0, true) := fun w1 _ => by
  go_enter Try.func8, Try.ntmps8
  go_wp2_with fail
  go_ret3
  exact ⟨rfl, rfl⟩
theorem both_EArray (v : Value) (w : World) : Both w (.iface 76 v) := ⟨_, _, ⟨fun h1 h2 => by revert h1 h2; decide, fun h1 h2 => by revert h1 h2; decide⟩, n_EArray v w, b_EArray v w⟩
set_option maxRecDepth 100000 in
theorem n_EClass (v : Value) (w : World) : TellN w (.iface 80 v) (false, 0, true) := fun w1 _ => by
  go_enter Try.func7, Try.ntmps7
  go_wp2_with fail
  go_ret3
  exact ⟨rfl, rfl⟩
set_option maxRecDepth 100000 in
theorem b_EClass (v : Value) (w : World) : TellB w (.iface 80 v) (true, 0, true) := fun w1 _ => by
  go_enter Try.func8, Try.ntmps8
  go_wp2_with fail
  go_ret3
  exact ⟨rfl, rfl⟩
theorem both_EClass (v : Value) (w : World) : Both w (.iface 80 v) := ⟨_, _, ⟨fun h1 h2 => by revert h1 h2; decide, fun h1 h2 => by revert h1 h2; decide⟩, n_EClass v w, b_EClass v w⟩
set_option maxRecDepth 100000 in
theorem n_EIdentifier (v : Value) (w : World) : TellN w (.iface 90 v) (false, 1, false) := fun w1 _ => by
  go_enter Try.func7, Try.ntmps7
  go_wp2_with fail
  go_ret3
  exact ⟨rfl, rfl⟩
set_option maxRecDepth 100000 in
theorem b_EIdentifier (v : Value) (w : World) : TellB w (.iface 90 v) (false, 0, false) := fun w1 _ => by
  go_enter Try.func8, Try.ntmps8
  go_wp2_with fail
  go_ret3
  exact ⟨rfl, rfl⟩
theorem both_EIdentifier (v : Value) (w : World) : Both w (.iface 90 v) := ⟨_, _, ⟨fun h1 h2 => by revert h1 h2; decide, fun h1 h2 => by revert h1 h2; decide⟩, n_EIdentifier v w, b_EIdentifier v w⟩
set_option maxRecDepth 100000 in
theorem n_EBoolean (v : Value) (w : World) : TellN w (.iface 36 v) (false, 1, true) := fun w1 _ => by
  go_enter Try.func7, Try.ntmps7
  go_wp2_with fail
  go_ret3
  exact ⟨rfl, rfl⟩
set_option maxRecDepth 100000 in
theorem b_EBoolean (p : Nat) (w : World) (hp : p < w.heap.size) (h : w.cell? ⟨p, 0, none⟩ = some (.bool true)) : TellB w (.iface 36 (.pointer (some ⟨p, 0, none⟩))) (true, 1, true) := fun w1 hb => by
  have c0 : w1.cell? ⟨p, 0, none⟩ = some (.bool true) := by rw [(bcell hb).1 _ _ hp]; exact h
  clear h hb
  go_enter Try.func8, Try.ntmps8
  go_wp2_with fail
  go_ret3
  exact ⟨rfl, rfl⟩
theorem both_EBoolean (p : Nat) (w : World) (hp : p < w.heap.size) (h : w.cell? ⟨p, 0, none⟩ = some (.bool true)) : Both w (.iface 36 (.pointer (some ⟨p, 0, none⟩))) := ⟨_, _, ⟨fun h1 h2 => by revert h1 h2; decide, fun h1 h2 => by revert h1 h2; decide⟩, n_EBoolean _ w, b_EBoolean p w hp h⟩
set_option maxRecDepth 100000 in
theorem n_EString (v : Value) (w : World) : TellN w (.iface 43 v) (false, 1, true) := fun w1 _ => by
  go_enter Try.func7, Try.ntmps7
  go_wp2_with fail
  go_ret3
  exact ⟨rfl, rfl⟩
set_option maxRecDepth 100000 in
theorem b_EString (p : Nat) (w : World) (hp : p < w.heap.size) (h : w.cell? ⟨p, 0, none⟩ = some (.slice none 0 0)) : TellB w (.iface 43 (.pointer (some ⟨p, 0, none⟩))) (false, 1, true) := fun w1 hb => by
  have c0 : w1.cell? ⟨p, 0, none⟩ = some (.slice none 0 0) := by rw [(bcell hb).1 _ _ hp]; exact h
  clear h hb
  go_enter Try.func8, Try.ntmps8
  go_wp2_with fail
  go_ret3
  exact ⟨rfl, rfl⟩
theorem both_EString (p : Nat) (w : World) (hp : p < w.heap.size) (h : w.cell? ⟨p, 0, none⟩ = some (.slice none 0 0)) : Both w (.iface 43 (.pointer (some ⟨p, 0, none⟩))) := ⟨_, _, ⟨fun h1 h2 => by revert h1 h2; decide, fun h1 h2 => by revert h1 h2; decide⟩, n_EString _ w, b_EString p w hp h⟩
set_option maxRecDepth 100000 in
theorem n_ENumber (v : Value) (w : World) : TellN w (.iface 39 v) (false, 1, true) := fun w1 _ => by
  go_enter Try.func7, Try.ntmps7
  go_wp2_with fail
  go_ret3
  exact ⟨rfl, rfl⟩
set_option maxRecDepth 100000 in
theorem b_ENumber (p : Nat) (w : World) (hp : p < w.heap.size) (h : w.cell? ⟨p, 0, none⟩ = some (.float .f64 4607182418800017408)) : TellB w (.iface 39 (.pointer (some ⟨p, 0, none⟩))) (true, 1, true) := fun w1 hb => by
  have c0 : w1.cell? ⟨p, 0, none⟩ = some (.float .f64 4607182418800017408) := by rw [(bcell hb).1 _ _ hp]; exact h
  have u1 : (FloatKind.f64.format.order 4607182418800017408 0 != some .eq) = true := by decide +kernel
  have u2 : (FloatKind.f64.format.order 4607182418800017408 4607182418800017408 != some .eq) = false := by decide +kernel
  clear h hb
  go_enter Try.func8, Try.ntmps8
  go_wp2_with (go_at_call 10; go_in)
  go_ret3
  exact ⟨rfl, rfl⟩
theorem both_ENumber (p : Nat) (w : World) (hp : p < w.heap.size) (h : w.cell? ⟨p, 0, none⟩ = some (.float .f64 4607182418800017408)) : Both w (.iface 39 (.pointer (some ⟨p, 0, none⟩))) := ⟨_, _, ⟨fun h1 h2 => by revert h1 h2; decide, fun h1 h2 => by revert h1 h2; decide⟩, n_ENumber _ w, b_ENumber p w hp h⟩
set_option maxRecDepth 100000 in
theorem n_enum (p : Nat) (d : Value) (n : Tr) (w : World) (hp : p < w.heap.size) (h : w.cell? ⟨p, 0, none⟩ = some d) (hd : TellN w d n) : TellN w (.iface 100 (.pointer (some ⟨p, 0, none⟩))) n := fun w1 hb => by
  have c0 : w1.cell? ⟨p, 0, none⟩ = some d := by rw [(bcell hb).1 _ _ hp]; exact h
  have K := Lib.hid (hd w1 hb)
  clear h hb hd
  go_enter Try.func7, Try.ntmps7
  go_wp2_with fail
  refine K.out.mono ?_
  rintro e w2 ⟨rfl, rfl⟩
  go_wp2_with fail
  go_ret3
  exact ⟨rfl, rfl⟩
set_option maxRecDepth 100000 in
theorem n_ann0 (p : Nat) (d : Value) (n : Tr) (w : World) (hp : p < w.heap.size) (h : w.cell? ⟨p, 0, none⟩ = some d) (hf : w.cell? ⟨p, 2, none⟩ = some (.int .u8 0)) (hd : TellN w d n) : TellN w (.iface 103 (.pointer (some ⟨p, 0, none⟩))) n := fun w1 hb => by
  have c0 : w1.cell? ⟨p, 0, none⟩ = some d := by rw [(bcell hb).1 _ _ hp]; exact h
  have c2 : w1.cell? ⟨p, 2, none⟩ = some (.int .u8 0) := by rw [(bcell hb).1 _ _ hp]; exact hf
  have K := Lib.hid (hd w1 hb)
  clear h hf hb hd
  go_enter Try.func7, Try.ntmps7
  go_wp2_with fail
  refine K.out.mono ?_
  rintro e w2 ⟨rfl, rfl⟩
  go_wp2_with (go_at_call 9; go_in)
  go_ret3
  exact ⟨rfl, rfl⟩
set_option maxRecDepth 100000 in
theorem n_ann1 (p : Nat) (d : Value) (n : Tr) (w : World) (hp : p < w.heap.size) (h : w.cell? ⟨p, 0, none⟩ = some d) (hf : w.cell? ⟨p, 2, none⟩ = some (.int .u8 1)) (hd : TellN w d n) : TellN w (.iface 103 (.pointer (some ⟨p, 0, none⟩))) (n.1, 1, n.2.2) := fun w1 hb => by
  have c0 : w1.cell? ⟨p, 0, none⟩ = some d := by rw [(bcell hb).1 _ _ hp]; exact h
  have c2 : w1.cell? ⟨p, 2, none⟩ = some (.int .u8 1) := by rw [(bcell hb).1 _ _ hp]; exact hf
  have K := Lib.hid (hd w1 hb)
  clear h hf hb hd
  go_enter Try.func7, Try.ntmps7
  go_wp2_with fail
  refine K.out.mono ?_
  rintro e w2 ⟨rfl, rfl⟩
  go_wp2_with (go_at_call 9; go_in)
  go_ret3
  exact ⟨rfl, rfl⟩
def com_n (n : Tr) : Tr := if n.2.2 = true then (n.1, 0, true) else (false, 1, false)
set_option maxRecDepth 100000 in
theorem n_comma (p : Nat) (d : Value) (n : Tr) (w : World) (hp : p < w.heap.size) (h : w.cell? ⟨p, 2, none⟩ = some d) (hf : w.cell? ⟨p, 4, none⟩ = some (.int .u8 36)) (hd : TellN w d n) : TellN w (.iface 97 (.pointer (some ⟨p, 0, none⟩))) (com_n n) := fun w1 hb => by
  have c0 : w1.cell? ⟨p, 2, none⟩ = some d := by rw [(bcell hb).1 _ _ hp]; exact h
  have c2 : w1.cell? ⟨p, 4, none⟩ = some (.int .u8 36) := by rw [(bcell hb).1 _ _ hp]; exact hf
  obtain ⟨x, y, z⟩ := n
  have K := Lib.hid (hd w1 hb)
  clear h hf hb hd
  cases z
  all_goals
    show Calls _ _ _ _ fun e w' => e = .returned (T3 _) ∧ _
    unfold com_n T3
    go_enter Try.func7, Try.ntmps7
    go_wp2_with fail
    refine K.out.mono ?_
    rintro e w2 ⟨rfl, rfl⟩
    go_wp2_with fail
    go_ret3
    exact ⟨rfl, rfl⟩
set_option maxRecDepth 100000 in
theorem b_enum (p : Nat) (d : Value) (n : Tr) (w : World) (hp : p < w.heap.size) (h : w.cell? ⟨p, 0, none⟩ = some d) (hd : TellB w d n) : TellB w (.iface 100 (.pointer (some ⟨p, 0, none⟩))) n := fun w1 hb => by
  have c0 : w1.cell? ⟨p, 0, none⟩ = some d := by rw [(bcell hb).1 _ _ hp]; exact h
  have K := Lib.hid (hd w1 hb)
  clear h hb hd
  go_enter Try.func8, Try.ntmps8
  go_wp2_with fail
  refine K.out.mono ?_
  rintro e w2 ⟨rfl, rfl⟩
  go_wp2_with fail
  go_ret3
  exact ⟨rfl, rfl⟩
set_option maxRecDepth 100000 in
theorem b_ann0 (p : Nat) (d : Value) (n : Tr) (w : World) (hp : p < w.heap.size) (h : w.cell? ⟨p, 0, none⟩ = some d) (hf : w.cell? ⟨p, 2, none⟩ = some (.int .u8 0)) (hd : TellB w d n) : TellB w (.iface 103 (.pointer (some ⟨p, 0, none⟩))) n := fun w1 hb => by
  have c0 : w1.cell? ⟨p, 0, none⟩ = some d := by rw [(bcell hb).1 _ _ hp]; exact h
  have c2 : w1.cell? ⟨p, 2, none⟩ = some (.int .u8 0) := by rw [(bcell hb).1 _ _ hp]; exact hf
  have K := Lib.hid (hd w1 hb)
  clear h hf hb hd
  go_enter Try.func8, Try.ntmps8
  go_wp2_with fail
  refine K.out.mono ?_
  rintro e w2 ⟨rfl, rfl⟩
  go_wp2_with (go_at_call 9; go_in)
  go_ret3
  exact ⟨rfl, rfl⟩
set_option maxRecDepth 100000 in
theorem b_ann1 (p : Nat) (d : Value) (n : Tr) (w : World) (hp : p < w.heap.size) (h : w.cell? ⟨p, 0, none⟩ = some d) (hf : w.cell? ⟨p, 2, none⟩ = some (.int .u8 1)) (hd : TellB w d n) : TellB w (.iface 103 (.pointer (some ⟨p, 0, none⟩))) (n.1, 1, n.2.2) := fun w1 hb => by
  have c0 : w1.cell? ⟨p, 0, none⟩ = some d := by rw [(bcell hb).1 _ _ hp]; exact h
  have c2 : w1.cell? ⟨p, 2, none⟩ = some (.int .u8 1) := by rw [(bcell hb).1 _ _ hp]; exact hf
  have K := Lib.hid (hd w1 hb)
  clear h hf hb hd
  go_enter Try.func8, Try.ntmps8
  go_wp2_with fail
  refine K.out.mono ?_
  rintro e w2 ⟨rfl, rfl⟩
  go_wp2_with (go_at_call 9; go_in)
  go_ret3
  exact ⟨rfl, rfl⟩
def com_b (n : Tr) : Tr := if n.2.2 = true then (n.1, 0, true) else (false, 0, false)
set_option maxRecDepth 100000 in
theorem b_comma (p : Nat) (d : Value) (n : Tr) (w : World) (hp : p < w.heap.size) (h : w.cell? ⟨p, 2, none⟩ = some d) (hf : w.cell? ⟨p, 4, none⟩ = some (.int .u8 36)) (hd : TellB w d n) : TellB w (.iface 97 (.pointer (some ⟨p, 0, none⟩))) (com_b n) := fun w1 hb => by
  have c0 : w1.cell? ⟨p, 2, none⟩ = some d := by rw [(bcell hb).1 _ _ hp]; exact h
  have c2 : w1.cell? ⟨p, 4, none⟩ = some (.int .u8 36) := by rw [(bcell hb).1 _ _ hp]; exact hf
  obtain ⟨x, y, z⟩ := n
  have K := Lib.hid (hd w1 hb)
  clear h hf hb hd
  cases z
  all_goals
    show Calls _ _ _ _ fun e w' => e = .returned (T3 _) ∧ _
    unfold com_b T3
    go_enter Try.func8, Try.ntmps8
    go_wp2_with fail
    refine K.out.mono ?_
    rintro e w2 ⟨rfl, rfl⟩
    go_wp2_with fail
    go_ret3
    exact ⟨rfl, rfl⟩
theorem both_enum (p : Nat) (d : Value) (w : World) (hp : p < w.heap.size) (h : w.cell? ⟨p, 0, none⟩ = some d) (hd : Both w d) : Both w (.iface 100 (.pointer (some ⟨p, 0, none⟩))) := by
  obtain ⟨n, b, a, h1, h2⟩ := hd; exact ⟨n, b, a, n_enum p d n w hp h h1, b_enum p d b w hp h h2⟩
theorem both_ann0 (p : Nat) (d : Value) (w : World) (hp : p < w.heap.size) (h : w.cell? ⟨p, 0, none⟩ = some d) (hf : w.cell? ⟨p, 2, none⟩ = some (.int .u8 0)) (hd : Both w d) : Both w (.iface 103 (.pointer (some ⟨p, 0, none⟩))) := by
  obtain ⟨n, b, a, h1, h2⟩ := hd; exact ⟨n, b, a, n_ann0 p d n w hp h hf h1, b_ann0 p d b w hp h hf h2⟩
theorem both_ann1 (p : Nat) (d : Value) (w : World) (hp : p < w.heap.size) (h : w.cell? ⟨p, 0, none⟩ = some d) (hf : w.cell? ⟨p, 2, none⟩ = some (.int .u8 1)) (hd : Both w d) : Both w (.iface 103 (.pointer (some ⟨p, 0, none⟩))) := by
  obtain ⟨n, b, a, h1, h2⟩ := hd; exact ⟨(n.1, 1, n.2.2), (b.1, 1, b.2.2), ⟨a.1, fun _ _ => rfl⟩, n_ann1 p d n w hp h hf h1, b_ann1 p d b w hp h hf h2⟩
theorem both_comma (p : Nat) (d : Value) (w : World) (hp : p < w.heap.size) (h : w.cell? ⟨p, 2, none⟩ = some d) (hf : w.cell? ⟨p, 4, none⟩ = some (.int .u8 36)) (hd : Both w d) : Both w (.iface 97 (.pointer (some ⟨p, 0, none⟩))) := by
  obtain ⟨⟨n1, n2, n3⟩, ⟨b1, b2, b3⟩, a, h1, h2⟩ := hd
  refine ⟨_, _, ?_, n_comma p d _ w hp h hf h1, b_comma p d _ w hp h hf h2⟩
  unfold Agree com_n com_b at *
  cases n3 <;> cases b3 <;> simp_all

end Go.Proofs.Ytgnlfkophffaoae
