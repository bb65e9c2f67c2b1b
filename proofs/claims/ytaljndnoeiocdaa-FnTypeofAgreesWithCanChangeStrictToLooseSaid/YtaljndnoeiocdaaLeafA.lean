/-
  Lemmas shared by several laws of this seat; no statement of their own.
-/
import Derived.Test.YtaljndnoeiocdaaRows
import Derived.WalkKit
import Derived.ProofKit
import Derived.OpenShut
import Derived.WalkLawsBesides
import Derived.Outline
import Derived.Below
import Derived.StillTailTactics
import Derived.Lib.Hide
namespace Go.Proofs.Ytaljndnoeiocdaa
open Go.ChangeShapes Go.WideShapes Go.ChangeAt Go.RowKit

set_option linter.unusedVariables false

theorem ta_ptr {P : Program} (t s T e : TypeId) (v : Value) (w : World) (hu : P.underlying T = some (.pointer e)) (hz : (zeroValue T).run P w = .ok (.pointer none) w) :
    (Instr.typeAssert (.iface t v) s T true).run P w = .ok (if t = T then .tuple #[v, .bool true] else .tuple #[.pointer none, .bool false]) w := by
  by_cases h : t = T <;> simp [Instr.typeAssert, run_underlying hu, hz, h]
theorem ta_nil {P : Program} (s T e : TypeId) (w : World) (hu : P.underlying T = some (.pointer e)) (hz : (zeroValue T).run P w = .ok (.pointer none) w) :
    (Instr.typeAssert .nilIface s T true).run P w = .ok (.tuple #[.pointer none, .bool false]) w := by
  simp [Instr.typeAssert, run_underlying hu, hz]
theorem ta42 (t : TypeId) (v : Value) (s : TypeId) (w : World) : (Instr.typeAssert (.iface t v) s 42 true).run Try.prog w = .ok (if t = 42 then .tuple #[v, .bool true] else .tuple #[.pointer none, .bool false]) w := ta_ptr t s 42 _ v w Try.underlying42 (by kernel_rfl)
theorem tn42 (s : TypeId) (w : World) : (Instr.typeAssert .nilIface s 42 true).run Try.prog w = .ok (.tuple #[.pointer none, .bool false]) w := ta_nil s 42 _ w Try.underlying42 (by kernel_rfl)
theorem ta47 (t : TypeId) (v : Value) (s : TypeId) (w : World) : (Instr.typeAssert (.iface t v) s 47 true).run Try.prog w = .ok (if t = 47 then .tuple #[v, .bool true] else .tuple #[.pointer none, .bool false]) w := ta_ptr t s 47 _ v w Try.underlying47 (by kernel_rfl)
theorem tn47 (s : TypeId) (w : World) : (Instr.typeAssert .nilIface s 47 true).run Try.prog w = .ok (.tuple #[.pointer none, .bool false]) w := ta_nil s 47 _ w Try.underlying47 (by kernel_rfl)
theorem ta55 (t : TypeId) (v : Value) (s : TypeId) (w : World) : (Instr.typeAssert (.iface t v) s 55 true).run Try.prog w = .ok (if t = 55 then .tuple #[v, .bool true] else .tuple #[.pointer none, .bool false]) w := ta_ptr t s 55 _ v w Try.underlying55 (by kernel_rfl)
theorem tn55 (s : TypeId) (w : World) : (Instr.typeAssert .nilIface s 55 true).run Try.prog w = .ok (.tuple #[.pointer none, .bool false]) w := ta_nil s 55 _ w Try.underlying55 (by kernel_rfl)
theorem ta58 (t : TypeId) (v : Value) (s : TypeId) (w : World) : (Instr.typeAssert (.iface t v) s 58 true).run Try.prog w = .ok (if t = 58 then .tuple #[v, .bool true] else .tuple #[.pointer none, .bool false]) w := ta_ptr t s 58 _ v w Try.underlying58 (by kernel_rfl)
theorem tn58 (s : TypeId) (w : World) : (Instr.typeAssert .nilIface s 58 true).run Try.prog w = .ok (.tuple #[.pointer none, .bool false]) w := ta_nil s 58 _ w Try.underlying58 (by kernel_rfl)
theorem ta61 (t : TypeId) (v : Value) (s : TypeId) (w : World) : (Instr.typeAssert (.iface t v) s 61 true).run Try.prog w = .ok (if t = 61 then .tuple #[v, .bool true] else .tuple #[.pointer none, .bool false]) w := ta_ptr t s 61 _ v w Try.underlying61 (by kernel_rfl)
theorem tn61 (s : TypeId) (w : World) : (Instr.typeAssert .nilIface s 61 true).run Try.prog w = .ok (.tuple #[.pointer none, .bool false]) w := ta_nil s 61 _ w Try.underlying61 (by kernel_rfl)
theorem ta64 (t : TypeId) (v : Value) (s : TypeId) (w : World) : (Instr.typeAssert (.iface t v) s 64 true).run Try.prog w = .ok (if t = 64 then .tuple #[v, .bool true] else .tuple #[.pointer none, .bool false]) w := ta_ptr t s 64 _ v w Try.underlying64 (by kernel_rfl)
theorem tn64 (s : TypeId) (w : World) : (Instr.typeAssert .nilIface s 64 true).run Try.prog w = .ok (.tuple #[.pointer none, .bool false]) w := ta_nil s 64 _ w Try.underlying64 (by kernel_rfl)
theorem ta66 (t : TypeId) (v : Value) (s : TypeId) (w : World) : (Instr.typeAssert (.iface t v) s 66 true).run Try.prog w = .ok (if t = 66 then .tuple #[v, .bool true] else .tuple #[.pointer none, .bool false]) w := ta_ptr t s 66 _ v w Try.underlying66 (by kernel_rfl)
theorem tn66 (s : TypeId) (w : World) : (Instr.typeAssert .nilIface s 66 true).run Try.prog w = .ok (.tuple #[.pointer none, .bool false]) w := ta_nil s 66 _ w Try.underlying66 (by kernel_rfl)
theorem ta69 (t : TypeId) (v : Value) (s : TypeId) (w : World) : (Instr.typeAssert (.iface t v) s 69 true).run Try.prog w = .ok (if t = 69 then .tuple #[v, .bool true] else .tuple #[.pointer none, .bool false]) w := ta_ptr t s 69 _ v w Try.underlying69 (by kernel_rfl)
theorem tn69 (s : TypeId) (w : World) : (Instr.typeAssert .nilIface s 69 true).run Try.prog w = .ok (.tuple #[.pointer none, .bool false]) w := ta_nil s 69 _ w Try.underlying69 (by kernel_rfl)
theorem ta74 (t : TypeId) (v : Value) (s : TypeId) (w : World) : (Instr.typeAssert (.iface t v) s 74 true).run Try.prog w = .ok (if t = 74 then .tuple #[v, .bool true] else .tuple #[.pointer none, .bool false]) w := ta_ptr t s 74 _ v w Try.underlying74 (by kernel_rfl)
theorem tn74 (s : TypeId) (w : World) : (Instr.typeAssert .nilIface s 74 true).run Try.prog w = .ok (.tuple #[.pointer none, .bool false]) w := ta_nil s 74 _ w Try.underlying74 (by kernel_rfl)
theorem ta77 (t : TypeId) (v : Value) (s : TypeId) (w : World) : (Instr.typeAssert (.iface t v) s 77 true).run Try.prog w = .ok (if t = 77 then .tuple #[v, .bool true] else .tuple #[.pointer none, .bool false]) w := ta_ptr t s 77 _ v w Try.underlying77 (by kernel_rfl)
theorem tn77 (s : TypeId) (w : World) : (Instr.typeAssert .nilIface s 77 true).run Try.prog w = .ok (.tuple #[.pointer none, .bool false]) w := ta_nil s 77 _ w Try.underlying77 (by kernel_rfl)
theorem ta83 (t : TypeId) (v : Value) (s : TypeId) (w : World) : (Instr.typeAssert (.iface t v) s 83 true).run Try.prog w = .ok (if t = 83 then .tuple #[v, .bool true] else .tuple #[.pointer none, .bool false]) w := ta_ptr t s 83 _ v w Try.underlying83 (by kernel_rfl)
theorem tn83 (s : TypeId) (w : World) : (Instr.typeAssert .nilIface s 83 true).run Try.prog w = .ok (.tuple #[.pointer none, .bool false]) w := ta_nil s 83 _ w Try.underlying83 (by kernel_rfl)
theorem ta85 (t : TypeId) (v : Value) (s : TypeId) (w : World) : (Instr.typeAssert (.iface t v) s 85 true).run Try.prog w = .ok (if t = 85 then .tuple #[v, .bool true] else .tuple #[.pointer none, .bool false]) w := ta_ptr t s 85 _ v w Try.underlying85 (by kernel_rfl)
theorem tn85 (s : TypeId) (w : World) : (Instr.typeAssert .nilIface s 85 true).run Try.prog w = .ok (.tuple #[.pointer none, .bool false]) w := ta_nil s 85 _ w Try.underlying85 (by kernel_rfl)
theorem ta97 (t : TypeId) (v : Value) (s : TypeId) (w : World) : (Instr.typeAssert (.iface t v) s 97 true).run Try.prog w = .ok (if t = 97 then .tuple #[v, .bool true] else .tuple #[.pointer none, .bool false]) w := ta_ptr t s 97 _ v w Try.underlying97 (by kernel_rfl)
theorem tn97 (s : TypeId) (w : World) : (Instr.typeAssert .nilIface s 97 true).run Try.prog w = .ok (.tuple #[.pointer none, .bool false]) w := ta_nil s 97 _ w Try.underlying97 (by kernel_rfl)
theorem ta100 (t : TypeId) (v : Value) (s : TypeId) (w : World) : (Instr.typeAssert (.iface t v) s 100 true).run Try.prog w = .ok (if t = 100 then .tuple #[v, .bool true] else .tuple #[.pointer none, .bool false]) w := ta_ptr t s 100 _ v w Try.underlying100 (by kernel_rfl)
theorem tn100 (s : TypeId) (w : World) : (Instr.typeAssert .nilIface s 100 true).run Try.prog w = .ok (.tuple #[.pointer none, .bool false]) w := ta_nil s 100 _ w Try.underlying100 (by kernel_rfl)
theorem ta104 (t : TypeId) (v : Value) (s : TypeId) (w : World) : (Instr.typeAssert (.iface t v) s 104 true).run Try.prog w = .ok (if t = 104 then .tuple #[v, .bool true] else .tuple #[.pointer none, .bool false]) w := ta_ptr t s 104 _ v w Try.underlying104 (by kernel_rfl)
theorem tn104 (s : TypeId) (w : World) : (Instr.typeAssert .nilIface s 104 true).run Try.prog w = .ok (.tuple #[.pointer none, .bool false]) w := ta_nil s 104 _ w Try.underlying104 (by kernel_rfl)
theorem ta109 (t : TypeId) (v : Value) (s : TypeId) (w : World) : (Instr.typeAssert (.iface t v) s 109 true).run Try.prog w = .ok (if t = 109 then .tuple #[v, .bool true] else .tuple #[.pointer none, .bool false]) w := ta_ptr t s 109 _ v w Try.underlying109 (by kernel_rfl)
theorem tn109 (s : TypeId) (w : World) : (Instr.typeAssert .nilIface s 109 true).run Try.prog w = .ok (.tuple #[.pointer none, .bool false]) w := ta_nil s 109 _ w Try.underlying109 (by kernel_rfl)
theorem ta114 (t : TypeId) (v : Value) (s : TypeId) (w : World) : (Instr.typeAssert (.iface t v) s 114 true).run Try.prog w = .ok (if t = 114 then .tuple #[v, .bool true] else .tuple #[.pointer none, .bool false]) w := ta_ptr t s 114 _ v w Try.underlying114 (by kernel_rfl)
theorem tn114 (s : TypeId) (w : World) : (Instr.typeAssert .nilIface s 114 true).run Try.prog w = .ok (.tuple #[.pointer none, .bool false]) w := ta_nil s 114 _ w Try.underlying114 (by kernel_rfl)
attribute [go_sem] ta42 tn42 ta47 tn47 ta55 tn55 ta58 tn58 ta61 tn61 ta64 tn64 ta66 tn66 ta69 tn69 ta74 tn74 ta77 tn77 ta83 tn83 ta85 tn85 ta97 tn97 ta100 tn100 ta104 tn104 ta109 tn109 ta114 tn114
theorem ret_true {b : Bool} (h : b = true) : Ending.returned (.bool b) = .returned (.bool true) := by rw [h]
theorem ret_int {k : IntKind} {a b : Int} (h : a = b) : Ending.returned (.int k a) = .returned (.int k b) := by rw [h]
theorem bcell {W w1 : World} (hb : Below W.heap.size W w1) : (∀ b o, b < W.heap.size → w1.cell? ⟨b, o, none⟩ = W.cell? ⟨b, o, none⟩) ∧ (∀ b o, b < W.heap.size → w1.frozen? ⟨b, o, none⟩ = W.frozen? ⟨b, o, none⟩) :=
  ⟨fun b o h => hb.cell (p := ⟨b, o, none⟩) h, fun b o h => hb.frozen (p := ⟨b, o, none⟩) h⟩
def prim (k : Int) : Int := if k = 0 then 2 else if k = 1 then 3 else if k = 2 then 4 else if k = 3 then 5 else if k = 4 then 6 else if k = 5 then 7 else 0
def ty (k : Int) : TypeId := if k = 0 then 61 else if k = 1 then 64 else if k = 2 then 66 else if k = 3 then 42 else if k = 4 then 69 else if k = 5 then 74 else if k = 6 then 77 else if k = 7 then 83 else if k = 8 then 85 else if k = 9 then 97 else 100
theorem eleven (k : Int) (h : 0 ≤ k) : k = 0 ∨ k = 1 ∨ k = 2 ∨ k = 3 ∨ k = 4 ∨ k = 5 ∨ k = 6 ∨ k = 7 ∨ k = 8 ∨ k = 9 ∨ 10 ≤ k := by omega
theorem big (k : Int) (h : 10 ≤ k) : prim k = 0 ∧ ty k = 100 := by
  unfold prim ty
  repeat rw [if_neg (by omega)]
  exact ⟨rfl, rfl⟩
theorem fact0 : prim 0 = 2 ∧ ty 0 = 61 := ⟨rfl, rfl⟩
theorem fact1 : prim 1 = 3 ∧ ty 1 = 64 := ⟨rfl, rfl⟩
theorem fact2 : prim 2 = 4 ∧ ty 2 = 66 := ⟨rfl, rfl⟩
theorem fact3 : prim 3 = 5 ∧ ty 3 = 42 := ⟨rfl, rfl⟩
theorem fact4 : prim 4 = 6 ∧ ty 4 = 69 := ⟨rfl, rfl⟩
theorem fact5 : prim 5 = 7 ∧ ty 5 = 74 := ⟨rfl, rfl⟩
theorem fact6 : prim 6 = 0 ∧ ty 6 = 77 := ⟨rfl, rfl⟩
theorem fact7 : prim 7 = 0 ∧ ty 7 = 83 := ⟨rfl, rfl⟩
theorem fact8 : prim 8 = 0 ∧ ty 8 = 85 := ⟨rfl, rfl⟩
theorem fact9 : prim 9 = 0 ∧ ty 9 = 97 := ⟨rfl, rfl⟩
set_option maxRecDepth 100000 in
theorem kpt0 (v : Value) (w : World) : Calls Try.prog 16 #[.iface 61 v] w fun e w' => e = .returned (.int .u8 2) ∧ w = w' := by
  go_enter Try.func16, Try.ntmps16
  go_wp2_with fail
  go_ret
  exact ⟨rfl, rfl⟩
set_option maxRecDepth 100000 in
theorem kpt1 (v : Value) (w : World) : Calls Try.prog 16 #[.iface 64 v] w fun e w' => e = .returned (.int .u8 3) ∧ w = w' := by
  go_enter Try.func16, Try.ntmps16
  go_wp2_with fail
  go_ret
  exact ⟨rfl, rfl⟩
set_option maxRecDepth 100000 in
theorem kpt2 (v : Value) (w : World) : Calls Try.prog 16 #[.iface 66 v] w fun e w' => e = .returned (.int .u8 4) ∧ w = w' := by
  go_enter Try.func16, Try.ntmps16
  go_wp2_with fail
  go_ret
  exact ⟨rfl, rfl⟩
set_option maxRecDepth 100000 in
theorem kpt3 (v : Value) (w : World) : Calls Try.prog 16 #[.iface 42 v] w fun e w' => e = .returned (.int .u8 5) ∧ w = w' := by
  go_enter Try.func16, Try.ntmps16
  go_wp2_with fail
  go_ret
  exact ⟨rfl, rfl⟩
set_option maxRecDepth 100000 in
theorem kpt4 (v : Value) (w : World) : Calls Try.prog 16 #[.iface 69 v] w fun e w' => e = .returned (.int .u8 6) ∧ w = w' := by
  go_enter Try.func16, Try.ntmps16
  go_wp2_with fail
  go_ret
  exact ⟨rfl, rfl⟩
set_option maxRecDepth 100000 in
theorem kpt5 (v : Value) (w : World) : Calls Try.prog 16 #[.iface 74 v] w fun e w' => e = .returned (.int .u8 7) ∧ w = w' := by
  go_enter Try.func16, Try.ntmps16
  go_wp2_with fail
  go_ret
  exact ⟨rfl, rfl⟩
set_option maxRecDepth 100000 in
theorem kpt6 (v : Value) (w : World) : Calls Try.prog 16 #[.iface 77 v] w fun e w' => e = .returned (.int .u8 0) ∧ w = w' := by
  go_enter Try.func16, Try.ntmps16
  go_wp2_with fail
  go_ret
  exact ⟨rfl, rfl⟩
set_option maxRecDepth 100000 in
theorem kpt7 (v : Value) (w : World) : Calls Try.prog 16 #[.iface 83 v] w fun e w' => e = .returned (.int .u8 0) ∧ w = w' := by
  go_enter Try.func16, Try.ntmps16
  go_wp2_with fail
  go_ret
  exact ⟨rfl, rfl⟩
set_option maxRecDepth 100000 in
theorem kpt8 (v : Value) (w : World) : Calls Try.prog 16 #[.iface 85 v] w fun e w' => e = .returned (.int .u8 0) ∧ w = w' := by
  go_enter Try.func16, Try.ntmps16
  go_wp2_with fail
  go_ret
  exact ⟨rfl, rfl⟩
set_option maxRecDepth 100000 in
theorem kpt9 (v : Value) (w : World) : Calls Try.prog 16 #[.iface 97 v] w fun e w' => e = .returned (.int .u8 0) ∧ w = w' := by
  go_enter Try.func16, Try.ntmps16
  go_wp2_with fail
  go_ret
  exact ⟨rfl, rfl⟩
set_option maxRecDepth 100000 in
theorem kpt10 (v : Value) (w : World) : Calls Try.prog 16 #[.iface 100 v] w fun e w' => e = .returned (.int .u8 0) ∧ w = w' := by
  go_enter Try.func16, Try.ntmps16
  go_wp2_with fail
  go_ret
  exact ⟨rfl, rfl⟩
theorem kpt_leaf (k : Int) (hk : 0 ≤ k) (v : Value) (w : World) : Calls Try.prog 16 #[.iface (ty k) v] w fun e w' => e = .returned (.int .u8 (prim k)) ∧ w = w' := by
  rcases eleven k hk with rfl | rfl | rfl | rfl | rfl | rfl | rfl | rfl | rfl | rfl | h
  · rw [fact0.1, fact0.2]; exact kpt0 v w
  · rw [fact1.1, fact1.2]; exact kpt1 v w
  · rw [fact2.1, fact2.2]; exact kpt2 v w
  · rw [fact3.1, fact3.2]; exact kpt3 v w
  · rw [fact4.1, fact4.2]; exact kpt4 v w
  · rw [fact5.1, fact5.2]; exact kpt5 v w
  · rw [fact6.1, fact6.2]; exact kpt6 v w
  · rw [fact7.1, fact7.2]; exact kpt7 v w
  · rw [fact8.1, fact8.2]; exact kpt8 v w
  · rw [fact9.1, fact9.2]; exact kpt9 v w
  · rw [(big k h).1, (big k h).2]; exact kpt10 v w
def Leafy (k : Int) (w : World) (e : Ending) (w' : World) : Prop := ∃ v, e = .returned (.agg #[.iface (ty k) v, .int .i32 0]) ∧ Below w.heap.size w w'
set_option maxRecDepth 100000 in
theorem leaf0 (w : World) : Calls Try.prog 10 #[.int .u8 0] w (Leafy 0 w) := by
  go_enter Try.func10, Try.ntmps10
  go_wp2
  refine bodyPost_ret (v := .agg #[.iface 61 (.pointer (some ⟨w.heap.size + 1, 0, none⟩)), .int .i32 0]) (by simp [results, Try.results10, go_sem]) rfl ⟨_, by rw [fact0.2], ?_⟩
  exact ((Below.refl _ _).alloc (Nat.le_refl _) _).alloc (by simp <;> omega) _
set_option maxRecDepth 100000 in
theorem leaf1 (w : World) : Calls Try.prog 10 #[.int .u8 1] w (Leafy 1 w) := by
  go_enter Try.func10, Try.ntmps10
  go_wp2
  refine bodyPost_ret (v := .agg #[.iface 64 (.pointer (some ⟨w.heap.size + 1, 0, none⟩)), .int .i32 0]) (by simp [results, Try.results10, go_sem]) rfl ⟨_, by rw [fact1.2], ?_⟩
  exact ((Below.refl _ _).alloc (Nat.le_refl _) _).alloc (by simp <;> omega) _
set_option maxRecDepth 100000 in
theorem leaf2 (w : World) : Calls Try.prog 10 #[.int .u8 2] w (Leafy 2 w) := by
  go_enter Try.func10, Try.ntmps10
  go_wp2
  refine bodyPost_ret (v := .agg #[.iface 66 (.pointer (some ⟨w.heap.size + 1, 0, none⟩)), .int .i32 0]) (by simp [results, Try.results10, go_sem]) rfl ⟨_, by rw [fact2.2], ?_⟩
  exact ((Below.refl _ _).alloc (Nat.le_refl _) _).alloc (by simp <;> omega) _
set_option maxRecDepth 100000 in
theorem leaf3 (w : World) : Calls Try.prog 10 #[.int .u8 3] w (Leafy 3 w) := by
  go_enter Try.func10, Try.ntmps10
  go_wp2
  refine bodyPost_ret (v := .agg #[.iface 42 (.pointer (some ⟨w.heap.size + 1, 0, none⟩)), .int .i32 0]) (by simp [results, Try.results10, go_sem]) rfl ⟨_, by rw [fact3.2], ?_⟩
  exact ((Below.refl _ _).alloc (Nat.le_refl _) _).alloc (by simp <;> omega) _
set_option maxRecDepth 100000 in
theorem leaf4 (w : World) : Calls Try.prog 10 #[.int .u8 4] w (Leafy 4 w) := by
  go_enter Try.func10, Try.ntmps10
  go_wp2
  refine bodyPost_ret (v := .agg #[.iface 69 (.pointer (some ⟨w.heap.size + 2, 0, none⟩)), .int .i32 0]) (by simp [results, Try.results10, go_sem]) rfl ⟨_, by rw [fact4.2], ?_⟩
  exact (((Below.refl _ _).alloc (Nat.le_refl _) _).alloc (by simp <;> omega) _).alloc (by simp <;> omega) _
set_option maxRecDepth 100000 in
theorem leaf5 (w : World) : Calls Try.prog 10 #[.int .u8 5] w (Leafy 5 w) := by
  go_enter Try.func10, Try.ntmps10
  go_wp2
  refine bodyPost_ret (v := .agg #[.iface 74 (.pointer (some ⟨w.heap.size + 1, 0, none⟩)), .int .i32 0]) (by simp [results, Try.results10, go_sem]) rfl ⟨_, by rw [fact5.2], ?_⟩
  exact ((Below.refl _ _).alloc (Nat.le_refl _) _).alloc (by simp <;> omega) _
set_option maxRecDepth 100000 in
theorem leaf6 (w : World) : Calls Try.prog 10 #[.int .u8 6] w (Leafy 6 w) := by
  go_enter Try.func10, Try.ntmps10
  go_wp2
  refine bodyPost_ret (v := .agg #[.iface 77 (.pointer (some ⟨w.heap.size + 1, 0, none⟩)), .int .i32 0]) (by simp [results, Try.results10, go_sem]) rfl ⟨_, by rw [fact6.2], ?_⟩
  exact ((Below.refl _ _).alloc (Nat.le_refl _) _).alloc (by simp <;> omega) _
set_option maxRecDepth 100000 in
theorem leaf7 (w : World) : Calls Try.prog 10 #[.int .u8 7] w (Leafy 7 w) := by
  go_enter Try.func10, Try.ntmps10
  go_wp2
  refine bodyPost_ret (v := .agg #[.iface 83 (.pointer (some ⟨w.heap.size + 1, 0, none⟩)), .int .i32 0]) (by simp [results, Try.results10, go_sem]) rfl ⟨_, by rw [fact7.2], ?_⟩
  exact ((Below.refl _ _).alloc (Nat.le_refl _) _).alloc (by simp <;> omega) _
set_option maxRecDepth 100000 in
theorem leaf8 (w : World) : Calls Try.prog 10 #[.int .u8 8] w (Leafy 8 w) := by
  go_enter Try.func10, Try.ntmps10
  go_wp2
  refine bodyPost_ret (v := .agg #[.iface 85 (.pointer (some ⟨w.heap.size + 1, 0, none⟩)), .int .i32 0]) (by simp [results, Try.results10, go_sem]) rfl ⟨_, by rw [fact8.2], ?_⟩
  exact ((Below.refl _ _).alloc (Nat.le_refl _) _).alloc (by simp <;> omega) _
set_option maxRecDepth 100000 in
theorem leaf9 (w : World) : Calls Try.prog 10 #[.int .u8 9] w (Leafy 9 w) := by
  go_enter Try.func10, Try.ntmps10
  go_wp2
  refine bodyPost_ret (v := .agg #[.iface 97 (.pointer (some ⟨w.heap.size + 1, 0, none⟩)), .int .i32 0]) (by simp [results, Try.results10, go_sem]) rfl ⟨_, by rw [fact9.2], ?_⟩
  exact ((Below.refl _ _).alloc (Nat.le_refl _) _).alloc (by simp <;> omega) _
set_option maxRecDepth 100000 in
theorem leaf10 (k : Int) (h : 10 ≤ k) (w : World) : Calls Try.prog 10 #[.int .u8 k] w (Leafy k w) := by
  go_enter Try.func10, Try.ntmps10
  go_wp2
  refine bodyPost_ret (v := .agg #[.iface 100 (.pointer (some ⟨w.heap.size + 1, 0, none⟩)), .int .i32 0]) (by simp [results, Try.results10, go_sem]) rfl ⟨_, by rw [(big k h).2], ?_⟩
  exact ((Below.refl _ _).alloc (Nat.le_refl _) _).alloc (by simp <;> omega) _
theorem leaf_any (k : Int) (hk : 0 ≤ k) (w : World) : Calls Try.prog 10 #[.int .u8 k] w (Leafy k w) := by
  rcases eleven k hk with rfl | rfl | rfl | rfl | rfl | rfl | rfl | rfl | rfl | rfl | h
  · exact leaf0 w
  · exact leaf1 w
  · exact leaf2 w
  · exact leaf3 w
  · exact leaf4 w
  · exact leaf5 w
  · exact leaf6 w
  · exact leaf7 w
  · exact leaf8 w
  · exact leaf9 w
  · exact leaf10 k h w
def Knows (w : World) (d : Value) (p : Int) : Prop := ∀ w1, Below w.heap.size w w1 → Calls Try.prog 16 #[d] w1 fun e w' => e = .returned (.int .u8 p) ∧ Below w1.heap.size w1 w'
theorem Knows.later {w w2 : World} {d : Value} {p : Int} (h : Knows w d p) (hb : Below w.heap.size w w2) : Knows w2 d p := fun w1 h1 => h w1 (hb.trans (h1.mono hb.size))
theorem knows_leaf (k : Int) (hk : 0 ≤ k) (v : Value) (w : World) : Knows w (.iface (ty k) v) (prim k) := fun w1 _ => (kpt_leaf k hk v w1).mono fun e w' ⟨h1, h2⟩ => ⟨h1, by subst h2; exact Below.refl _ _⟩

end Go.Proofs.Ytaljndnoeiocdaa
