/-
  ToStringWithoutSideEffects on a string and on an identifier; no statement of its own.
-/
import Derived.Test.YtlmjnlijoodbiaaDoorRows
import Derived.WalkKit
import Derived.ProofKit
import Derived.OpenShut
import Derived.Test.YtlmjnlijoodbiaaDoorSlW
import Derived.Test.YtlmjnlijoodbiaaDoorIpC
import Derived.Test.YtlmjnlijoodbiaaDoorIpA
import Derived.Test.YtlmjnlijoodbiaaDoorIpT
import Derived.WalkLawsBesides
import Derived.WalkSpells
import Derived.Below
import Derived.Lib.Hide
import Derived.Outline
import Derived.OwnWalk
namespace Go.Proofs.YtlmjnlijoodbiaaDoor
open Go.ChangeShapes Go.WideShapes Go.ChangeAt Go.RowKit

set_option linter.unusedVariables false

theorem ta_ptr {P : Program} (t s T e : TypeId) (v : Value) (w : World) (hu : P.underlying T = some (.pointer e)) (hz : (zeroValue T).run P w = .ok (.pointer none) w) :
    (Instr.typeAssert (.iface t v) s T true).run P w = .ok (if t = T then .tuple #[v, .bool true] else .tuple #[.pointer none, .bool false]) w := by
  by_cases h : t = T <;> simp [Instr.typeAssert, run_underlying hu, hz, h]
theorem ta_nil {P : Program} (s T e : TypeId) (w : World) (hu : P.underlying T = some (.pointer e)) (hz : (zeroValue T).run P w = .ok (.pointer none) w) :
    (Instr.typeAssert .nilIface s T true).run P w = .ok (.tuple #[.pointer none, .bool false]) w := by
  simp [Instr.typeAssert, run_underlying hu, hz]
theorem ta30 (t : TypeId) (v : Value) (s : TypeId) (w : World) : (Instr.typeAssert (.iface t v) s 30 true).run Tryd.prog w = .ok (if t = 30 then .tuple #[v, .bool true] else .tuple #[.pointer none, .bool false]) w := ta_ptr t s 30 _ v w Tryd.underlying30 (by kernel_rfl)
theorem tn30 (s : TypeId) (w : World) : (Instr.typeAssert .nilIface s 30 true).run Tryd.prog w = .ok (.tuple #[.pointer none, .bool false]) w := ta_nil s 30 _ w Tryd.underlying30 (by kernel_rfl)
theorem ta50 (t : TypeId) (v : Value) (s : TypeId) (w : World) : (Instr.typeAssert (.iface t v) s 50 true).run Tryd.prog w = .ok (if t = 50 then .tuple #[v, .bool true] else .tuple #[.pointer none, .bool false]) w := ta_ptr t s 50 _ v w Tryd.underlying50 (by kernel_rfl)
theorem tn50 (s : TypeId) (w : World) : (Instr.typeAssert .nilIface s 50 true).run Tryd.prog w = .ok (.tuple #[.pointer none, .bool false]) w := ta_nil s 50 _ w Tryd.underlying50 (by kernel_rfl)
theorem ta55 (t : TypeId) (v : Value) (s : TypeId) (w : World) : (Instr.typeAssert (.iface t v) s 55 true).run Tryd.prog w = .ok (if t = 55 then .tuple #[v, .bool true] else .tuple #[.pointer none, .bool false]) w := ta_ptr t s 55 _ v w Tryd.underlying55 (by kernel_rfl)
theorem tn55 (s : TypeId) (w : World) : (Instr.typeAssert .nilIface s 55 true).run Tryd.prog w = .ok (.tuple #[.pointer none, .bool false]) w := ta_nil s 55 _ w Tryd.underlying55 (by kernel_rfl)
theorem ta61 (t : TypeId) (v : Value) (s : TypeId) (w : World) : (Instr.typeAssert (.iface t v) s 61 true).run Tryd.prog w = .ok (if t = 61 then .tuple #[v, .bool true] else .tuple #[.pointer none, .bool false]) w := ta_ptr t s 61 _ v w Tryd.underlying61 (by kernel_rfl)
theorem tn61 (s : TypeId) (w : World) : (Instr.typeAssert .nilIface s 61 true).run Tryd.prog w = .ok (.tuple #[.pointer none, .bool false]) w := ta_nil s 61 _ w Tryd.underlying61 (by kernel_rfl)
theorem ta71 (t : TypeId) (v : Value) (s : TypeId) (w : World) : (Instr.typeAssert (.iface t v) s 71 true).run Tryd.prog w = .ok (if t = 71 then .tuple #[v, .bool true] else .tuple #[.pointer none, .bool false]) w := ta_ptr t s 71 _ v w Tryd.underlying71 (by kernel_rfl)
theorem tn71 (s : TypeId) (w : World) : (Instr.typeAssert .nilIface s 71 true).run Tryd.prog w = .ok (.tuple #[.pointer none, .bool false]) w := ta_nil s 71 _ w Tryd.underlying71 (by kernel_rfl)
theorem ta72 (t : TypeId) (v : Value) (s : TypeId) (w : World) : (Instr.typeAssert (.iface t v) s 72 true).run Tryd.prog w = .ok (if t = 72 then .tuple #[v, .bool true] else .tuple #[.pointer none, .bool false]) w := ta_ptr t s 72 _ v w Tryd.underlying72 (by kernel_rfl)
theorem tn72 (s : TypeId) (w : World) : (Instr.typeAssert .nilIface s 72 true).run Tryd.prog w = .ok (.tuple #[.pointer none, .bool false]) w := ta_nil s 72 _ w Tryd.underlying72 (by kernel_rfl)
theorem ta73 (t : TypeId) (v : Value) (s : TypeId) (w : World) : (Instr.typeAssert (.iface t v) s 73 true).run Tryd.prog w = .ok (if t = 73 then .tuple #[v, .bool true] else .tuple #[.pointer none, .bool false]) w := ta_ptr t s 73 _ v w Tryd.underlying73 (by kernel_rfl)
theorem tn73 (s : TypeId) (w : World) : (Instr.typeAssert .nilIface s 73 true).run Tryd.prog w = .ok (.tuple #[.pointer none, .bool false]) w := ta_nil s 73 _ w Tryd.underlying73 (by kernel_rfl)
theorem ta76 (t : TypeId) (v : Value) (s : TypeId) (w : World) : (Instr.typeAssert (.iface t v) s 76 true).run Tryd.prog w = .ok (if t = 76 then .tuple #[v, .bool true] else .tuple #[.pointer none, .bool false]) w := ta_ptr t s 76 _ v w Tryd.underlying76 (by kernel_rfl)
theorem tn76 (s : TypeId) (w : World) : (Instr.typeAssert .nilIface s 76 true).run Tryd.prog w = .ok (.tuple #[.pointer none, .bool false]) w := ta_nil s 76 _ w Tryd.underlying76 (by kernel_rfl)
theorem ta79 (t : TypeId) (v : Value) (s : TypeId) (w : World) : (Instr.typeAssert (.iface t v) s 79 true).run Tryd.prog w = .ok (if t = 79 then .tuple #[v, .bool true] else .tuple #[.pointer none, .bool false]) w := ta_ptr t s 79 _ v w Tryd.underlying79 (by kernel_rfl)
theorem tn79 (s : TypeId) (w : World) : (Instr.typeAssert .nilIface s 79 true).run Tryd.prog w = .ok (.tuple #[.pointer none, .bool false]) w := ta_nil s 79 _ w Tryd.underlying79 (by kernel_rfl)
theorem ta84 (t : TypeId) (v : Value) (s : TypeId) (w : World) : (Instr.typeAssert (.iface t v) s 84 true).run Tryd.prog w = .ok (if t = 84 then .tuple #[v, .bool true] else .tuple #[.pointer none, .bool false]) w := ta_ptr t s 84 _ v w Tryd.underlying84 (by kernel_rfl)
theorem tn84 (s : TypeId) (w : World) : (Instr.typeAssert .nilIface s 84 true).run Tryd.prog w = .ok (.tuple #[.pointer none, .bool false]) w := ta_nil s 84 _ w Tryd.underlying84 (by kernel_rfl)
theorem ta86 (t : TypeId) (v : Value) (s : TypeId) (w : World) : (Instr.typeAssert (.iface t v) s 86 true).run Tryd.prog w = .ok (if t = 86 then .tuple #[v, .bool true] else .tuple #[.pointer none, .bool false]) w := ta_ptr t s 86 _ v w Tryd.underlying86 (by kernel_rfl)
theorem tn86 (s : TypeId) (w : World) : (Instr.typeAssert .nilIface s 86 true).run Tryd.prog w = .ok (.tuple #[.pointer none, .bool false]) w := ta_nil s 86 _ w Tryd.underlying86 (by kernel_rfl)
attribute [go_sem] ta30 tn30 ta50 tn50 ta55 tn55 ta61 tn61 ta71 tn71 ta72 tn72 ta73 tn73 ta76 tn76 ta79 tn79 ta84 tn84 ta86 tn86
set_option maxRecDepth 100000 in
set_option maxHeartbeats 1000000 in
theorem no_text_str (w : World) (g : Nat) : Calls Tryd.prog 14 #[.iface 50 (ptr g)] w fun e w' => e = .returned (.tuple #[.string ⟨#[]⟩, .bool false]) ∧ w' = w := by
  go_enter Tryd.func14, Tryd.ntmps14
  go_wp2_with fail
  go_ret2
  exact ⟨rfl, rfl⟩
set_option maxRecDepth 100000 in
set_option maxHeartbeats 1000000 in
theorem no_text_id (w : World) (g : Nat) : Calls Tryd.prog 14 #[.iface 55 (ptr g)] w fun e w' => e = .returned (.tuple #[.string ⟨#[]⟩, .bool false]) ∧ w' = w := by
  go_enter Tryd.func14, Tryd.ntmps14
  go_wp2_with fail
  go_ret2
  exact ⟨rfl, rfl⟩

end Go.Proofs.YtlmjnlijoodbiaaDoor
