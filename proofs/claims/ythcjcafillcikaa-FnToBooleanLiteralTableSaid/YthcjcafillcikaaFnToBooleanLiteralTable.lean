/-
  For every kind, float, length and bool the law FnToBooleanLiteralTable returns true and leaves its arguments as they were; no condition.
  The frame of this text was written by the kit's program proof-skeleton.mjs for this statement; the walk and its lemmas are the prover's.
-/
import Derived.Test.YthcjcafillcikaaRows
import Derived.WalkKit
import Derived.ProofKit
import Derived.OpenShut
import Derived.WalkLawsBesides
import Derived.WalkSpells
import Derived.Lib.Hide
import Derived.Outline
import Derived.Laws.MakeOwn
import Derived.ShutString
import Derived.ChangeOld
import Derived.Below
import Derived.WalkLawsBesides
import Derived.Deep.Slices
import Derived.Laws.Cover2
namespace Go.Proofs.Ythcjcafillcikaa.fnToBooleanLiteralTable
open Go.ChangeShapes Go.WideShapes Go.ChangeAt Go.RowKit
open Go.ChangeMaps (open_string shut_string)
open Go.Deep (open_slice1)
set_option linter.unusedVariables false

theorem own : ownKnob Try.prog.godebug = none := by kernel_rfl
theorem laidOut : laidOutB Try.prog = true := by kernel_rfl

theorem ta_ptr {P : Program} (t s T e : TypeId) (v : Value) (w : World) (hu : P.underlying T = some (.pointer e)) (hz : (zeroValue T).run P w = .ok (.pointer none) w) :
    (Instr.typeAssert (.iface t v) s T true).run P w = .ok (if t = T then .tuple #[v, .bool true] else .tuple #[.pointer none, .bool false]) w := by
  by_cases h : t = T <;> simp [Instr.typeAssert, run_underlying hu, hz, h]
theorem ta_nil {P : Program} (s T e : TypeId) (w : World) (hu : P.underlying T = some (.pointer e)) (hz : (zeroValue T).run P w = .ok (.pointer none) w) :
    (Instr.typeAssert .nilIface s T true).run P w = .ok (.tuple #[.pointer none, .bool false]) w := by
  simp [Instr.typeAssert, run_underlying hu, hz]
theorem ta47 (t : TypeId) (v : Value) (s : TypeId) (w : World) : (Instr.typeAssert (.iface t v) s 47 true).run Try.prog w = .ok (if t = 47 then .tuple #[v, .bool true] else .tuple #[.pointer none, .bool false]) w := ta_ptr t s 47 _ v w Try.underlying47 (by kernel_rfl)
theorem tn47 (s : TypeId) (w : World) : (Instr.typeAssert .nilIface s 47 true).run Try.prog w = .ok (.tuple #[.pointer none, .bool false]) w := ta_nil s 47 _ w Try.underlying47 (by kernel_rfl)
theorem ta50 (t : TypeId) (v : Value) (s : TypeId) (w : World) : (Instr.typeAssert (.iface t v) s 50 true).run Try.prog w = .ok (if t = 50 then .tuple #[v, .bool true] else .tuple #[.pointer none, .bool false]) w := ta_ptr t s 50 _ v w Try.underlying50 (by kernel_rfl)
theorem tn50 (s : TypeId) (w : World) : (Instr.typeAssert .nilIface s 50 true).run Try.prog w = .ok (.tuple #[.pointer none, .bool false]) w := ta_nil s 50 _ w Try.underlying50 (by kernel_rfl)
theorem ta52 (t : TypeId) (v : Value) (s : TypeId) (w : World) : (Instr.typeAssert (.iface t v) s 52 true).run Try.prog w = .ok (if t = 52 then .tuple #[v, .bool true] else .tuple #[.pointer none, .bool false]) w := ta_ptr t s 52 _ v w Try.underlying52 (by kernel_rfl)
theorem tn52 (s : TypeId) (w : World) : (Instr.typeAssert .nilIface s 52 true).run Try.prog w = .ok (.tuple #[.pointer none, .bool false]) w := ta_nil s 52 _ w Try.underlying52 (by kernel_rfl)
theorem ta56 (t : TypeId) (v : Value) (s : TypeId) (w : World) : (Instr.typeAssert (.iface t v) s 56 true).run Try.prog w = .ok (if t = 56 then .tuple #[v, .bool true] else .tuple #[.pointer none, .bool false]) w := ta_ptr t s 56 _ v w Try.underlying56 (by kernel_rfl)
theorem tn56 (s : TypeId) (w : World) : (Instr.typeAssert .nilIface s 56 true).run Try.prog w = .ok (.tuple #[.pointer none, .bool false]) w := ta_nil s 56 _ w Try.underlying56 (by kernel_rfl)
theorem ta60 (t : TypeId) (v : Value) (s : TypeId) (w : World) : (Instr.typeAssert (.iface t v) s 60 true).run Try.prog w = .ok (if t = 60 then .tuple #[v, .bool true] else .tuple #[.pointer none, .bool false]) w := ta_ptr t s 60 _ v w Try.underlying60 (by kernel_rfl)
theorem tn60 (s : TypeId) (w : World) : (Instr.typeAssert .nilIface s 60 true).run Try.prog w = .ok (.tuple #[.pointer none, .bool false]) w := ta_nil s 60 _ w Try.underlying60 (by kernel_rfl)
theorem ta69 (t : TypeId) (v : Value) (s : TypeId) (w : World) : (Instr.typeAssert (.iface t v) s 69 true).run Try.prog w = .ok (if t = 69 then .tuple #[v, .bool true] else .tuple #[.pointer none, .bool false]) w := ta_ptr t s 69 _ v w Try.underlying69 (by kernel_rfl)
theorem tn69 (s : TypeId) (w : World) : (Instr.typeAssert .nilIface s 69 true).run Try.prog w = .ok (.tuple #[.pointer none, .bool false]) w := ta_nil s 69 _ w Try.underlying69 (by kernel_rfl)
theorem ta77 (t : TypeId) (v : Value) (s : TypeId) (w : World) : (Instr.typeAssert (.iface t v) s 77 true).run Try.prog w = .ok (if t = 77 then .tuple #[v, .bool true] else .tuple #[.pointer none, .bool false]) w := ta_ptr t s 77 _ v w Try.underlying77 (by kernel_rfl)
theorem tn77 (s : TypeId) (w : World) : (Instr.typeAssert .nilIface s 77 true).run Try.prog w = .ok (.tuple #[.pointer none, .bool false]) w := ta_nil s 77 _ w Try.underlying77 (by kernel_rfl)
theorem ta80 (t : TypeId) (v : Value) (s : TypeId) (w : World) : (Instr.typeAssert (.iface t v) s 80 true).run Try.prog w = .ok (if t = 80 then .tuple #[v, .bool true] else .tuple #[.pointer none, .bool false]) w := ta_ptr t s 80 _ v w Try.underlying80 (by kernel_rfl)
theorem tn80 (s : TypeId) (w : World) : (Instr.typeAssert .nilIface s 80 true).run Try.prog w = .ok (.tuple #[.pointer none, .bool false]) w := ta_nil s 80 _ w Try.underlying80 (by kernel_rfl)
theorem ta84 (t : TypeId) (v : Value) (s : TypeId) (w : World) : (Instr.typeAssert (.iface t v) s 84 true).run Try.prog w = .ok (if t = 84 then .tuple #[v, .bool true] else .tuple #[.pointer none, .bool false]) w := ta_ptr t s 84 _ v w Try.underlying84 (by kernel_rfl)
theorem tn84 (s : TypeId) (w : World) : (Instr.typeAssert .nilIface s 84 true).run Try.prog w = .ok (.tuple #[.pointer none, .bool false]) w := ta_nil s 84 _ w Try.underlying84 (by kernel_rfl)
theorem ta88 (t : TypeId) (v : Value) (s : TypeId) (w : World) : (Instr.typeAssert (.iface t v) s 88 true).run Try.prog w = .ok (if t = 88 then .tuple #[v, .bool true] else .tuple #[.pointer none, .bool false]) w := ta_ptr t s 88 _ v w Try.underlying88 (by kernel_rfl)
theorem tn88 (s : TypeId) (w : World) : (Instr.typeAssert .nilIface s 88 true).run Try.prog w = .ok (.tuple #[.pointer none, .bool false]) w := ta_nil s 88 _ w Try.underlying88 (by kernel_rfl)
theorem ta93 (t : TypeId) (v : Value) (s : TypeId) (w : World) : (Instr.typeAssert (.iface t v) s 93 true).run Try.prog w = .ok (if t = 93 then .tuple #[v, .bool true] else .tuple #[.pointer none, .bool false]) w := ta_ptr t s 93 _ v w Try.underlying93 (by kernel_rfl)
theorem tn93 (s : TypeId) (w : World) : (Instr.typeAssert .nilIface s 93 true).run Try.prog w = .ok (.tuple #[.pointer none, .bool false]) w := ta_nil s 93 _ w Try.underlying93 (by kernel_rfl)
theorem ta96 (t : TypeId) (v : Value) (s : TypeId) (w : World) : (Instr.typeAssert (.iface t v) s 96 true).run Try.prog w = .ok (if t = 96 then .tuple #[v, .bool true] else .tuple #[.pointer none, .bool false]) w := ta_ptr t s 96 _ v w Try.underlying96 (by kernel_rfl)
theorem tn96 (s : TypeId) (w : World) : (Instr.typeAssert .nilIface s 96 true).run Try.prog w = .ok (.tuple #[.pointer none, .bool false]) w := ta_nil s 96 _ w Try.underlying96 (by kernel_rfl)
theorem ta99 (t : TypeId) (v : Value) (s : TypeId) (w : World) : (Instr.typeAssert (.iface t v) s 99 true).run Try.prog w = .ok (if t = 99 then .tuple #[v, .bool true] else .tuple #[.pointer none, .bool false]) w := ta_ptr t s 99 _ v w Try.underlying99 (by kernel_rfl)
theorem tn99 (s : TypeId) (w : World) : (Instr.typeAssert .nilIface s 99 true).run Try.prog w = .ok (.tuple #[.pointer none, .bool false]) w := ta_nil s 99 _ w Try.underlying99 (by kernel_rfl)
theorem ta103 (t : TypeId) (v : Value) (s : TypeId) (w : World) : (Instr.typeAssert (.iface t v) s 103 true).run Try.prog w = .ok (if t = 103 then .tuple #[v, .bool true] else .tuple #[.pointer none, .bool false]) w := ta_ptr t s 103 _ v w Try.underlying103 (by kernel_rfl)
theorem tn103 (s : TypeId) (w : World) : (Instr.typeAssert .nilIface s 103 true).run Try.prog w = .ok (.tuple #[.pointer none, .bool false]) w := ta_nil s 103 _ w Try.underlying103 (by kernel_rfl)
theorem ta107 (t : TypeId) (v : Value) (s : TypeId) (w : World) : (Instr.typeAssert (.iface t v) s 107 true).run Try.prog w = .ok (if t = 107 then .tuple #[v, .bool true] else .tuple #[.pointer none, .bool false]) w := ta_ptr t s 107 _ v w Try.underlying107 (by kernel_rfl)
theorem tn107 (s : TypeId) (w : World) : (Instr.typeAssert .nilIface s 107 true).run Try.prog w = .ok (.tuple #[.pointer none, .bool false]) w := ta_nil s 107 _ w Try.underlying107 (by kernel_rfl)
theorem ta111 (t : TypeId) (v : Value) (s : TypeId) (w : World) : (Instr.typeAssert (.iface t v) s 111 true).run Try.prog w = .ok (if t = 111 then .tuple #[v, .bool true] else .tuple #[.pointer none, .bool false]) w := ta_ptr t s 111 _ v w Try.underlying111 (by kernel_rfl)
theorem tn111 (s : TypeId) (w : World) : (Instr.typeAssert .nilIface s 111 true).run Try.prog w = .ok (.tuple #[.pointer none, .bool false]) w := ta_nil s 111 _ w Try.underlying111 (by kernel_rfl)
theorem ta115 (t : TypeId) (v : Value) (s : TypeId) (w : World) : (Instr.typeAssert (.iface t v) s 115 true).run Try.prog w = .ok (if t = 115 then .tuple #[v, .bool true] else .tuple #[.pointer none, .bool false]) w := ta_ptr t s 115 _ v w Try.underlying115 (by kernel_rfl)
theorem tn115 (s : TypeId) (w : World) : (Instr.typeAssert .nilIface s 115 true).run Try.prog w = .ok (.tuple #[.pointer none, .bool false]) w := ta_nil s 115 _ w Try.underlying115 (by kernel_rfl)
theorem ta116 (t : TypeId) (v : Value) (s : TypeId) (w : World) : (Instr.typeAssert (.iface t v) s 116 true).run Try.prog w = .ok (if t = 116 then .tuple #[v, .bool true] else .tuple #[.pointer none, .bool false]) w := ta_ptr t s 116 _ v w Try.underlying116 (by kernel_rfl)
theorem tn116 (s : TypeId) (w : World) : (Instr.typeAssert .nilIface s 116 true).run Try.prog w = .ok (.tuple #[.pointer none, .bool false]) w := ta_nil s 116 _ w Try.underlying116 (by kernel_rfl)
theorem ta125 (t : TypeId) (v : Value) (s : TypeId) (w : World) : (Instr.typeAssert (.iface t v) s 125 true).run Try.prog w = .ok (if t = 125 then .tuple #[v, .bool true] else .tuple #[.pointer none, .bool false]) w := ta_ptr t s 125 _ v w Try.underlying125 (by kernel_rfl)
theorem tn125 (s : TypeId) (w : World) : (Instr.typeAssert .nilIface s 125 true).run Try.prog w = .ok (.tuple #[.pointer none, .bool false]) w := ta_nil s 125 _ w Try.underlying125 (by kernel_rfl)
theorem ta144 (t : TypeId) (v : Value) (s : TypeId) (w : World) : (Instr.typeAssert (.iface t v) s 144 true).run Try.prog w = .ok (if t = 144 then .tuple #[v, .bool true] else .tuple #[.pointer none, .bool false]) w := ta_ptr t s 144 _ v w Try.underlying144 (by kernel_rfl)
theorem tn144 (s : TypeId) (w : World) : (Instr.typeAssert .nilIface s 144 true).run Try.prog w = .ok (.tuple #[.pointer none, .bool false]) w := ta_nil s 144 _ w Try.underlying144 (by kernel_rfl)
theorem ta149 (t : TypeId) (v : Value) (s : TypeId) (w : World) : (Instr.typeAssert (.iface t v) s 149 true).run Try.prog w = .ok (if t = 149 then .tuple #[v, .bool true] else .tuple #[.pointer none, .bool false]) w := ta_ptr t s 149 _ v w Try.underlying149 (by kernel_rfl)
theorem tn149 (s : TypeId) (w : World) : (Instr.typeAssert .nilIface s 149 true).run Try.prog w = .ok (.tuple #[.pointer none, .bool false]) w := ta_nil s 149 _ w Try.underlying149 (by kernel_rfl)
theorem ta152 (t : TypeId) (v : Value) (s : TypeId) (w : World) : (Instr.typeAssert (.iface t v) s 152 true).run Try.prog w = .ok (if t = 152 then .tuple #[v, .bool true] else .tuple #[.pointer none, .bool false]) w := ta_ptr t s 152 _ v w Try.underlying152 (by kernel_rfl)
theorem tn152 (s : TypeId) (w : World) : (Instr.typeAssert .nilIface s 152 true).run Try.prog w = .ok (.tuple #[.pointer none, .bool false]) w := ta_nil s 152 _ w Try.underlying152 (by kernel_rfl)
attribute [local go_sem] ta47 tn47 ta50 tn50 ta52 tn52 ta56 tn56 ta60 tn60 ta69 tn69 ta77 tn77 ta80 tn80 ta84 tn84 ta88 tn88 ta93 tn93 ta96 tn96 ta99 tn99 ta103 tn103 ta107 tn107 ta111 tn111 ta115 tn115 ta116 tn116 ta125 tn125 ta144 tn144 ta149 tn149 ta152 tn152
theorem ret_true {b : Bool} (h : b = true) : Ending.returned (.bool b) = .returned (.bool true) := by rw [h]
theorem info_three {P : Program} {e : TypeId} {z : Value} {s b : Nat} (h : (P.info? e).map (fun i => (i.zero, i.size, i.bytes)) = some (some z, s, b)) : ∃ i, P.info? e = some i ∧ i.zero = some z ∧ i.size = s ∧ i.bytes = b := by
  cases hi : P.info? e with
  | none => rw [hi] at h; cases h
  | some i => rw [hi] at h; simp at h; exact ⟨i, rfl, h.1, h.2.1, h.2.2⟩
theorem info_u : (Try.prog.info? 45).map (fun i => (i.zero, i.size, i.bytes)) = some (some (.int .u16 0), 1, 2) := by kernel_rfl
theorem below_drewN {B : Nat} {w w' : World} (h : Below B w w') (q : Nat) : Below B w (w'.drewN q) := ⟨h.1, h.2, h.3, h.4, h.5⟩
theorem ord_self (d : Ieee.Datum) : d.order d = (if d.isNaN then none else some .eq) := by
  cases d with
  | number s m i => simp [Ieee.Datum.order, Ieee.Datum.isNaN]
  | infinity s => simp [Ieee.Datum.order, Ieee.Datum.isNaN]
  | nan s t => simp [Ieee.Datum.order, Ieee.Datum.isNaN]
theorem ord_zero (d : Ieee.Datum) : d.order (FloatKind.f64.format.read 0) = none ↔ d.isNaN = true := by
  have h0 : FloatKind.f64.format.read 0 = .number false 0 Ieee.double.leastPlace := by decide +kernel
  rw [h0]
  cases d with
  | number s m i => simp [Ieee.Datum.order, Ieee.Datum.isNaN]
  | infinity s => simp [Ieee.Datum.order, Ieee.Datum.isNaN]
  | nan s t => simp [Ieee.Datum.order, Ieee.Datum.isNaN]
theorem self_of (f : Nat) : FloatKind.f64.format.order f f = (if FloatKind.f64.format.order f 0 = none then none else some .eq) := by
  unfold Ieee.Format.order
  rw [ord_self]
  by_cases h : (FloatKind.f64.format.read f).isNaN = true
  · rw [if_pos h, if_pos ((ord_zero _).2 h)]
  · rw [if_neg h, if_neg (fun e => h ((ord_zero _).1 e))]
set_option maxRecDepth 100000 in
theorem tb_ENull (v : Value) (w : World) : Calls Try.prog 18 #[.iface 47 v] w fun e w' => e = .returned (.tuple #[.bool false, .int .u8 1, .bool true]) ∧ w = w' := by
  go_enter Try.func18, Try.ntmps18
  go_wp2_with fail
  go_ret3
  exact ⟨rfl, rfl⟩
set_option maxRecDepth 100000 in
theorem tb_EUndefined (v : Value) (w : World) : Calls Try.prog 18 #[.iface 50 v] w fun e w' => e = .returned (.tuple #[.bool false, .int .u8 1, .bool true]) ∧ w = w' := by
  go_enter Try.func18, Try.ntmps18
  go_wp2_with fail
  go_ret3
  exact ⟨rfl, rfl⟩
set_option maxRecDepth 100000 in
theorem tb_EArrow (v : Value) (w : World) : Calls Try.prog 18 #[.iface 60 v] w fun e w' => e = .returned (.tuple #[.bool true, .int .u8 1, .bool true]) ∧ w = w' := by
  go_enter Try.func18, Try.ntmps18
  go_wp2_with fail
  go_ret3
  exact ⟨rfl, rfl⟩
set_option maxRecDepth 100000 in
theorem tb_EFunction (v : Value) (w : World) : Calls Try.prog 18 #[.iface 69 v] w fun e w' => e = .returned (.tuple #[.bool true, .int .u8 1, .bool true]) ∧ w = w' := by
  go_enter Try.func18, Try.ntmps18
  go_wp2_with fail
  go_ret3
  exact ⟨rfl, rfl⟩
set_option maxRecDepth 100000 in
theorem tb_ERegExp (v : Value) (w : World) : Calls Try.prog 18 #[.iface 77 v] w fun e w' => e = .returned (.tuple #[.bool true, .int .u8 1, .bool true]) ∧ w = w' := by
  go_enter Try.func18, Try.ntmps18
  go_wp2_with fail
  go_ret3
  exact ⟨rfl, rfl⟩
set_option maxRecDepth 100000 in
theorem tb_EObject (v : Value) (w : World) : Calls Try.prog 18 #[.iface 80 v] w fun e w' => e = .returned (.tuple #[.bool true, .int .u8 0, .bool true]) ∧ w = w' := by
  go_enter Try.func18, Try.ntmps18
  go_wp2_with fail
  go_ret3
  exact ⟨rfl, rfl⟩
set_option maxRecDepth 100000 in
theorem tb_EArray (v : Value) (w : World) : Calls Try.prog 18 #[.iface 84 v] w fun e w' => e = .returned (.tuple #[.bool true, .int .u8 0, .bool true]) ∧ w = w' := by
  go_enter Try.func18, Try.ntmps18
  go_wp2_with fail
  go_ret3
  exact ⟨rfl, rfl⟩
set_option maxRecDepth 100000 in
theorem tb_EThis (v : Value) (w : World) : Calls Try.prog 18 #[.iface 88 v] w fun e w' => e = .returned (.tuple #[.bool false, .int .u8 0, .bool false]) ∧ w = w' := by
  go_enter Try.func18, Try.ntmps18
  go_wp2_with fail
  go_ret3
  exact ⟨rfl, rfl⟩
set_option maxRecDepth 100000 in
theorem tb_EBoolean (p : Nat) (b : Bool) (w : World) (h : w.cell? ⟨p, 0, none⟩ = some (.bool b)) : Calls Try.prog 18 #[.iface 52 (.pointer (some ⟨p, 0, none⟩))] w fun e w' => e = .returned (.tuple #[.bool b, .int .u8 1, .bool true]) ∧ w = w' := by
  go_enter Try.func18, Try.ntmps18
  go_wp2_with fail
  go_ret3
  exact ⟨rfl, rfl⟩
set_option maxRecDepth 100000 in
theorem tb_EString (p : Nat) (A : Option Addr) (n c : Nat) (w : World) (h : w.cell? ⟨p, 0, none⟩ = some (.slice A n c)) : Calls Try.prog 18 #[.iface 56 (.pointer (some ⟨p, 0, none⟩))] w fun e w' => e = .returned (.tuple #[.bool (decide (0 < n)), .int .u8 1, .bool true]) ∧ w = w' := by
  by_cases hn : 0 < n
  all_goals
    go_enter Try.func18, Try.ntmps18
    go_wp2_with fail
    go_ret3
    exact ⟨by simp [hn], rfl⟩
def tru (f : Nat) : Bool := FloatKind.f64.format.order f 0 == some .lt || FloatKind.f64.format.order f 0 == some .gt
set_option maxRecDepth 100000 in
theorem tb_ENumber (p f : Nat) (w : World) (h : w.cell? ⟨p, 0, none⟩ = some (.float .f64 f)) : Calls Try.prog 18 #[.iface 93 (.pointer (some ⟨p, 0, none⟩))] w fun e w' => e = .returned (.tuple #[.bool (tru f), .int .u8 1, .bool true]) ∧ w = w' := by
  have HS := self_of f
  have HT := Lib.hid (show tru f = (FloatKind.f64.format.order f 0 == some .lt || FloatKind.f64.format.order f 0 == some .gt) from rfl)
  cases ho : FloatKind.f64.format.order f 0 with
  | none =>
    rw [ho, if_pos rfl] at HS
    rw [ho] at HT
    have u1 : (FloatKind.f64.format.order f 0 != some .eq) = true := by rw [ho]; rfl
    have u2 : (FloatKind.f64.format.order f f != some .eq) = true := by rw [HS]; rfl
    clear ho HS
    go_enter Try.func18, Try.ntmps18
    go_wp2_with (go_at_call 30; go_in)
    go_ret3
    exact ⟨by rw [HT.out]; rfl, rfl⟩
  | some c =>
    rw [ho, if_neg (by simp)] at HS
    rw [ho] at HT
    have u2 : (FloatKind.f64.format.order f f != some .eq) = false := by rw [HS]; rfl
    have u1 : (FloatKind.f64.format.order f 0 != some .eq) = (c != .eq) := by rw [ho]; cases c <;> rfl
    clear ho HS
    cases c
    all_goals
      go_enter Try.func18, Try.ntmps18
      go_wp2_with (go_at_call 30; go_in)
      go_ret3
      exact ⟨by rw [HT.out]; rfl, rfl⟩
theorem num_any (f : Nat) (w : World) : Calls Try.prog 17 #[.float .f64 f] w fun e w' => e = .returned (.agg #[.iface 93 (.pointer (some ⟨w.heap.size + 1, 0, none⟩)), .int .i32 0]) ∧ w' = (w.alloc (.cells #[.iface 93 (.pointer (some ⟨w.heap.size + 1, 0, none⟩)), .int .i32 0] 30)).alloc (.cells #[.float .f64 f] 95) := by
  go_enter Try.func17, Try.ntmps17
  go_wp2_with fail
  exact bodyPost_ret (v := .agg #[.iface 93 (.pointer (some ⟨w.heap.size + 1, 0, none⟩)), .int .i32 0]) (by simp [results, Try.results17, go_sem]) rfl ⟨rfl, rfl⟩

set_option maxRecDepth 100000 in
set_option maxHeartbeats 2000000 in
theorem walk (a0 : Int) (a1 : Nat) (a2 : Int) (a3 : Bool) (w : World) (w0 : (Lit.int .u8 a0).wf = true) (w1 : (Lit.float .f64 a1).wf = true) (w2 : (Lit.int .u16 a2).wf = true) :
    Calls Try.prog 5 #[.int .u8 a0, .float .f64 a1, .int .u16 a2, .bool a3] w fun e w' => e = .returned (.bool true) ∧ Below w.heap.size w w' := by
  obtain ⟨hl0, hh0⟩ := bounds_u8 w0
  obtain ⟨hl2, hh2⟩ := bounds_u16 w2
  have hcase : a0 % 11 = 0 ∨ a0 % 11 = 1 ∨ a0 % 11 = 2 ∨ a0 % 11 = 3 ∨ a0 % 11 = 4 ∨ a0 % 11 = 5 ∨ a0 % 11 = 6 ∨ a0 % 11 = 7 ∨ a0 % 11 = 8 ∨ a0 % 11 = 9 ∨ a0 % 11 = 10 := by omega
  clear w0 w1 w2
  rcases hcase with hc | hc | hc | hc | hc | hc | hc | hc | hc | hc | hc
  · go_enter Try.func5, Try.ntmps5
    go_wp2_with fail
    refine (tb_ENull _ _).mono ?_
    rintro e w1 ⟨rfl, rfl⟩
    go_wp2_with fail
    go_ret
    exact ⟨ret_true (by first | rfl | simp), by repeat (first | exact Below.refl _ _ | apply below_drewN | refine Below.alloc ?_ (by simp <;> omega) _ | refine Below.setCell ?_ (by simp <;> omega) _)⟩
  · go_enter Try.func5, Try.ntmps5
    go_wp2_with fail
    refine (tb_EUndefined _ _).mono ?_
    rintro e w1 ⟨rfl, rfl⟩
    go_wp2_with fail
    go_ret
    exact ⟨ret_true (by first | rfl | simp), by repeat (first | exact Below.refl _ _ | apply below_drewN | refine Below.alloc ?_ (by simp <;> omega) _ | refine Below.setCell ?_ (by simp <;> omega) _)⟩
  · go_enter Try.func5, Try.ntmps5
    go_wp2_with fail
    refine (tb_EBoolean _ a3 _ (by simp [go_sem])).mono ?_
    rintro e w1 ⟨rfl, rfl⟩
    go_wp2_with fail
    go_ret
    exact ⟨ret_true (by first | rfl | simp), by repeat (first | exact Below.refl _ _ | apply below_drewN | refine Below.alloc ?_ (by simp <;> omega) _ | refine Below.setCell ?_ (by simp <;> omega) _)⟩
  · have HT := Lib.hid (show tru a1 = (FloatKind.f64.format.order a1 0 == some .lt || FloatKind.f64.format.order a1 0 == some .gt) from rfl)
    cases o1 : (FloatKind.f64.format.order a1 0 == some .lt) <;> cases o2 : (FloatKind.f64.format.order a1 0 == some .gt)
    all_goals
      rw [o1, o2] at HT
      go_enter Try.func5, Try.ntmps5
      go_wp2_with fail
      refine (num_any a1 _).mono ?_
      rintro e w1 ⟨rfl, rfl⟩
      go_wp2_with fail
      refine (tb_ENumber _ a1 _ (by simp [go_sem])).mono ?_
      rw [HT.out]
      rintro e w1 ⟨rfl, rfl⟩
      go_wp2_with fail
      go_ret
      exact ⟨ret_true (by first | rfl | simp), by repeat (first | exact Below.refl _ _ | apply below_drewN | refine Below.alloc ?_ (by simp <;> omega) _ | refine Below.setCell ?_ (by simp <;> omega) _)⟩
  · obtain ⟨n, rfl⟩ := Int.eq_ofNat_of_zero_le hl2
    obtain ⟨i0, hi, hz0, hz1, hz2⟩ := info_three info_u
    have hmk := fun w => run_make (P := Try.prog) w 57 45 i0 (.int .u16 0) Try.underlying57 hi hz0 .i64 .i64 n n (by omega) (by omega) (by rw [hz2]; omega) (by omega)
    rw [hz1] at hmk
    clear hi hz0 hz1 hz2
    simp only [Nat.mul_one, Int.toNat_natCast] at hmk
    by_cases hn0 : 0 < n
    all_goals
      go_enter Try.func5, Try.ntmps5
      go_wp2_with fail
      refine (tb_EString _ (some ⟨w.heap.size + 1, 0, none⟩) n n _ (by simp [go_sem])).mono ?_
      rintro e w1 ⟨rfl, rfl⟩
      go_wp2_with fail
      go_ret
      exact ⟨ret_true (by first | rfl | simp), by repeat (first | exact Below.refl _ _ | apply below_drewN | refine Below.alloc ?_ (by simp <;> omega) _ | refine Below.setCell ?_ (by simp <;> omega) _)⟩
  · go_enter Try.func5, Try.ntmps5
    go_wp2_with fail
    refine (tb_EArrow _ _).mono ?_
    rintro e w1 ⟨rfl, rfl⟩
    go_wp2_with fail
    go_ret
    exact ⟨ret_true (by first | rfl | simp), by repeat (first | exact Below.refl _ _ | apply below_drewN | refine Below.alloc ?_ (by simp <;> omega) _ | refine Below.setCell ?_ (by simp <;> omega) _)⟩
  · go_enter Try.func5, Try.ntmps5
    go_wp2_with fail
    refine (tb_EFunction _ _).mono ?_
    rintro e w1 ⟨rfl, rfl⟩
    go_wp2_with fail
    go_ret
    exact ⟨ret_true (by first | rfl | simp), by repeat (first | exact Below.refl _ _ | apply below_drewN | refine Below.alloc ?_ (by simp <;> omega) _ | refine Below.setCell ?_ (by simp <;> omega) _)⟩
  · go_enter Try.func5, Try.ntmps5
    go_wp2_with fail
    refine (tb_ERegExp _ _).mono ?_
    rintro e w1 ⟨rfl, rfl⟩
    go_wp2_with fail
    go_ret
    exact ⟨ret_true (by first | rfl | simp), by repeat (first | exact Below.refl _ _ | apply below_drewN | refine Below.alloc ?_ (by simp <;> omega) _ | refine Below.setCell ?_ (by simp <;> omega) _)⟩
  · go_enter Try.func5, Try.ntmps5
    go_wp2_with fail
    refine (tb_EObject _ _).mono ?_
    rintro e w1 ⟨rfl, rfl⟩
    go_wp2_with fail
    go_ret
    exact ⟨ret_true (by first | rfl | simp), by repeat (first | exact Below.refl _ _ | apply below_drewN | refine Below.alloc ?_ (by simp <;> omega) _ | refine Below.setCell ?_ (by simp <;> omega) _)⟩
  · go_enter Try.func5, Try.ntmps5
    go_wp2_with fail
    refine (tb_EArray _ _).mono ?_
    rintro e w1 ⟨rfl, rfl⟩
    go_wp2_with fail
    go_ret
    exact ⟨ret_true (by first | rfl | simp), by repeat (first | exact Below.refl _ _ | apply below_drewN | refine Below.alloc ?_ (by simp <;> omega) _ | refine Below.setCell ?_ (by simp <;> omega) _)⟩
  · go_enter Try.func5, Try.ntmps5
    go_wp2_with fail
    refine (tb_EThis _ _).mono ?_
    rintro e w1 ⟨rfl, rfl⟩
    go_wp2_with fail
    go_ret
    exact ⟨ret_true (by first | rfl | simp), by repeat (first | exact Below.refl _ _ | apply below_drewN | refine Below.alloc ?_ (by simp <;> omega) _ | refine Below.setCell ?_ (by simp <;> omega) _)⟩

/-! ### THE ROW's STEP: WRITTEN OUT: LEAVE IT -/
set_option maxRecDepth 100000 in
theorem lifted (os : Os) (started : os.Started) (H : Type) (enc : TypeId × Value → H) :
    ReturnsInHanded {} Try.checked os 5 .any (Rows.fnToBooleanLiteralTableSpec.pre6 enc Try.prog Try.f5 Rows.fnToBooleanLiteralTableRow.domain false) (Rows.fnToBooleanLiteralTableSpec.post enc Try.prog Try.f5 false true false false) := by
  refine returnsInHanded_of_change (C := Try.checked) own started (by kernel_rfl) Try.func5
    (ChangeSpec.witness6 (enc := enc) (C := Try.checked) false ⟨#[], #[.int .u8 0, .float .f64 0, .int .u16 0, .bool false], []⟩ 8 (by kernel_rfl) (by kernel_rfl) (by kernel_rfl) (by kernel_rfl)) ?_
  intro W base args ds gs before hval0 hW hcnd _
  have hval : ∀ (j : Nat) t v, Try.f5.params[j]? = some t → args[j]? = some v → Value.okWide Try.prog W .any base t v := hval0
  have hW' := hW
  obtain ⟨p, q, hA0, hV, rfl, hfz, hnd⟩ := hW
  have hA : DataW.TrodAll enc Try.prog W 0 (fun _ => true) true Try.f5.params.toList args.toList ds p := hA0
  rw [Try.params5] at hA hval
  obtain ⟨v0, vs0, d0, ds0, p0, q0, hargs, rfl, rfl, h0, r0⟩ := trodAll_cons hA
  obtain ⟨v1, vs1, d1, ds1, p1, q1, rfl, rfl, rfl, h1, r1⟩ := trodAll_cons r0
  obtain ⟨v2, vs2, d2, ds2, p2, q2, rfl, rfl, rfl, h2, r2⟩ := trodAll_cons r1
  obtain ⟨v3, vs3, d3, ds3, p3, q3, rfl, rfl, rfl, h3, r3⟩ := trodAll_cons r2
  obtain ⟨rfl, rfl, rfl⟩ := trodAll_nil r3
  obtain rfl : args = #[v0, v1, v2, v3] := by cases args; simp_all
  obtain ⟨rfl, rfl⟩ := trodVars_none hV
  obtain ⟨a0, rfl, rfl, rfl, w0⟩ := open_int Try.underlying5 (hval 0 5 v0 rfl rfl) h0
  obtain ⟨a1, rfl, rfl, rfl, w1⟩ := open_float Try.underlying44 (hval 1 44 v1 rfl rfl) h1
  obtain ⟨a2, rfl, rfl, rfl, w2⟩ := open_int Try.underlying45 (hval 2 45 v2 rfl rfl) h2
  obtain ⟨a3, rfl, rfl, rfl⟩ := open_bool Try.underlying4 (hval 3 4 v3 rfl rfl) h3
  clear hA0 hval0
  refine (walk a0 a1 a2 a3 W w0 w1 w2).mono fun e W' ⟨he, bel⟩ => ?_
  subst he
  exact ⟨_, rfl, _, _, _, [], _, [], hW', trodAll_mk1 (shut_bool Try.underlying4 _), (trodAll_cons_mk (shut_int Try.underlying5 w0) (trodAll_cons_mk (shut_float Try.underlying44 w1) (trodAll_cons_mk (shut_int Try.underlying45 w2) (trodAll_cons_mk (shut_bool Try.underlying4 _) trodAll_mk0)))), rfl, bel.frame _, fun h => by cases h⟩

theorem over : Rows.fnToBooleanLiteralTableRow.holds Try.pinned (OpenSpec.ofChange Rows.fnToBooleanLiteralTableSpec) :=
  OpenClaim.holds_of_wide 5 Try.f5 rfl rfl rfl rfl rfl rfl rfl ⟨rfl, rfl, rfl, rfl, rfl⟩ rfl rfl rfl rfl rfl (by kernel_rfl) Try.func5 (by kernel_rfl)
    (of_decide_eq_true (by kernel_rfl)) (by unfold Func.isWrapper; first | (rw [if_pos (by decide +kernel)]; kernel_rfl) | (rw [if_neg (by decide +kernel)]; exact ⟨rfl, rfl⟩))
    (fun os started H enc _ => lifted os started H enc)

/-- THE STATEMENT -/
theorem proved : Rows.FnToBooleanLiteralTableSaid := over
#print axioms proved
end Go.Proofs.Ythcjcafillcikaa.fnToBooleanLiteralTable
