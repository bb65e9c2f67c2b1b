/-
  Lemmas shared by several laws of this seat; no statement of their own.
-/
import Derived.Test.YtdjiekejkjgamaaRows
import Derived.WalkKit
import Derived.ProofKit
import Derived.OpenShut
import Derived.Test.YtdjiekejkjgamaaSlW
import Derived.WalkLawsBesides
import Derived.WalkSpells
import Derived.Below
import Derived.Lib.Hide
import Derived.Outline
import Derived.LoopTactic
import Derived.Deep.QuietTactic
import Derived.BigQuiet
namespace Go.Proofs.Ytdjiekejkjgamaa
open Go.ChangeShapes Go.WideShapes Go.ChangeAt Go.RowKit

set_option linter.unusedVariables false

theorem ta_ptr {P : Program} (t s T e : TypeId) (v : Value) (w : World) (hu : P.underlying T = some (.pointer e)) (hz : (zeroValue T).run P w = .ok (.pointer none) w) :
    (Instr.typeAssert (.iface t v) s T true).run P w = .ok (if t = T then .tuple #[v, .bool true] else .tuple #[.pointer none, .bool false]) w := by
  by_cases h : t = T <;> simp [Instr.typeAssert, run_underlying hu, hz, h]
theorem ta_nil {P : Program} (s T e : TypeId) (w : World) (hu : P.underlying T = some (.pointer e)) (hz : (zeroValue T).run P w = .ok (.pointer none) w) :
    (Instr.typeAssert .nilIface s T true).run P w = .ok (.tuple #[.pointer none, .bool false]) w := by
  simp [Instr.typeAssert, run_underlying hu, hz]
theorem ta40 (t : TypeId) (v : Value) (s : TypeId) (w : World) : (Instr.typeAssert (.iface t v) s 40 true).run Try.prog w = .ok (if t = 40 then .tuple #[v, .bool true] else .tuple #[.pointer none, .bool false]) w := ta_ptr t s 40 _ v w Try.underlying40 (by kernel_rfl)
theorem tn40 (s : TypeId) (w : World) : (Instr.typeAssert .nilIface s 40 true).run Try.prog w = .ok (.tuple #[.pointer none, .bool false]) w := ta_nil s 40 _ w Try.underlying40 (by kernel_rfl)
theorem ta46 (t : TypeId) (v : Value) (s : TypeId) (w : World) : (Instr.typeAssert (.iface t v) s 46 true).run Try.prog w = .ok (if t = 46 then .tuple #[v, .bool true] else .tuple #[.pointer none, .bool false]) w := ta_ptr t s 46 _ v w Try.underlying46 (by kernel_rfl)
theorem tn46 (s : TypeId) (w : World) : (Instr.typeAssert .nilIface s 46 true).run Try.prog w = .ok (.tuple #[.pointer none, .bool false]) w := ta_nil s 46 _ w Try.underlying46 (by kernel_rfl)
theorem ta50 (t : TypeId) (v : Value) (s : TypeId) (w : World) : (Instr.typeAssert (.iface t v) s 50 true).run Try.prog w = .ok (if t = 50 then .tuple #[v, .bool true] else .tuple #[.pointer none, .bool false]) w := ta_ptr t s 50 _ v w Try.underlying50 (by kernel_rfl)
theorem tn50 (s : TypeId) (w : World) : (Instr.typeAssert .nilIface s 50 true).run Try.prog w = .ok (.tuple #[.pointer none, .bool false]) w := ta_nil s 50 _ w Try.underlying50 (by kernel_rfl)
theorem ta51 (t : TypeId) (v : Value) (s : TypeId) (w : World) : (Instr.typeAssert (.iface t v) s 51 true).run Try.prog w = .ok (if t = 51 then .tuple #[v, .bool true] else .tuple #[.pointer none, .bool false]) w := ta_ptr t s 51 _ v w Try.underlying51 (by kernel_rfl)
theorem tn51 (s : TypeId) (w : World) : (Instr.typeAssert .nilIface s 51 true).run Try.prog w = .ok (.tuple #[.pointer none, .bool false]) w := ta_nil s 51 _ w Try.underlying51 (by kernel_rfl)
theorem ta54 (t : TypeId) (v : Value) (s : TypeId) (w : World) : (Instr.typeAssert (.iface t v) s 54 true).run Try.prog w = .ok (if t = 54 then .tuple #[v, .bool true] else .tuple #[.pointer none, .bool false]) w := ta_ptr t s 54 _ v w Try.underlying54 (by kernel_rfl)
theorem tn54 (s : TypeId) (w : World) : (Instr.typeAssert .nilIface s 54 true).run Try.prog w = .ok (.tuple #[.pointer none, .bool false]) w := ta_nil s 54 _ w Try.underlying54 (by kernel_rfl)
theorem ta65 (t : TypeId) (v : Value) (s : TypeId) (w : World) : (Instr.typeAssert (.iface t v) s 65 true).run Try.prog w = .ok (if t = 65 then .tuple #[v, .bool true] else .tuple #[.pointer none, .bool false]) w := ta_ptr t s 65 _ v w Try.underlying65 (by kernel_rfl)
theorem tn65 (s : TypeId) (w : World) : (Instr.typeAssert .nilIface s 65 true).run Try.prog w = .ok (.tuple #[.pointer none, .bool false]) w := ta_nil s 65 _ w Try.underlying65 (by kernel_rfl)
theorem ta74 (t : TypeId) (v : Value) (s : TypeId) (w : World) : (Instr.typeAssert (.iface t v) s 74 true).run Try.prog w = .ok (if t = 74 then .tuple #[v, .bool true] else .tuple #[.pointer none, .bool false]) w := ta_ptr t s 74 _ v w Try.underlying74 (by kernel_rfl)
theorem tn74 (s : TypeId) (w : World) : (Instr.typeAssert .nilIface s 74 true).run Try.prog w = .ok (.tuple #[.pointer none, .bool false]) w := ta_nil s 74 _ w Try.underlying74 (by kernel_rfl)
theorem ta78 (t : TypeId) (v : Value) (s : TypeId) (w : World) : (Instr.typeAssert (.iface t v) s 78 true).run Try.prog w = .ok (if t = 78 then .tuple #[v, .bool true] else .tuple #[.pointer none, .bool false]) w := ta_ptr t s 78 _ v w Try.underlying78 (by kernel_rfl)
theorem tn78 (s : TypeId) (w : World) : (Instr.typeAssert .nilIface s 78 true).run Try.prog w = .ok (.tuple #[.pointer none, .bool false]) w := ta_nil s 78 _ w Try.underlying78 (by kernel_rfl)
theorem ta83 (t : TypeId) (v : Value) (s : TypeId) (w : World) : (Instr.typeAssert (.iface t v) s 83 true).run Try.prog w = .ok (if t = 83 then .tuple #[v, .bool true] else .tuple #[.pointer none, .bool false]) w := ta_ptr t s 83 _ v w Try.underlying83 (by kernel_rfl)
theorem tn83 (s : TypeId) (w : World) : (Instr.typeAssert .nilIface s 83 true).run Try.prog w = .ok (.tuple #[.pointer none, .bool false]) w := ta_nil s 83 _ w Try.underlying83 (by kernel_rfl)
theorem ta89 (t : TypeId) (v : Value) (s : TypeId) (w : World) : (Instr.typeAssert (.iface t v) s 89 true).run Try.prog w = .ok (if t = 89 then .tuple #[v, .bool true] else .tuple #[.pointer none, .bool false]) w := ta_ptr t s 89 _ v w Try.underlying89 (by kernel_rfl)
theorem tn89 (s : TypeId) (w : World) : (Instr.typeAssert .nilIface s 89 true).run Try.prog w = .ok (.tuple #[.pointer none, .bool false]) w := ta_nil s 89 _ w Try.underlying89 (by kernel_rfl)
theorem ta101 (t : TypeId) (v : Value) (s : TypeId) (w : World) : (Instr.typeAssert (.iface t v) s 101 true).run Try.prog w = .ok (if t = 101 then .tuple #[v, .bool true] else .tuple #[.pointer none, .bool false]) w := ta_ptr t s 101 _ v w Try.underlying101 (by kernel_rfl)
theorem tn101 (s : TypeId) (w : World) : (Instr.typeAssert .nilIface s 101 true).run Try.prog w = .ok (.tuple #[.pointer none, .bool false]) w := ta_nil s 101 _ w Try.underlying101 (by kernel_rfl)
theorem ta102 (t : TypeId) (v : Value) (s : TypeId) (w : World) : (Instr.typeAssert (.iface t v) s 102 true).run Try.prog w = .ok (if t = 102 then .tuple #[v, .bool true] else .tuple #[.pointer none, .bool false]) w := ta_ptr t s 102 _ v w Try.underlying102 (by kernel_rfl)
theorem tn102 (s : TypeId) (w : World) : (Instr.typeAssert .nilIface s 102 true).run Try.prog w = .ok (.tuple #[.pointer none, .bool false]) w := ta_nil s 102 _ w Try.underlying102 (by kernel_rfl)
theorem ta104 (t : TypeId) (v : Value) (s : TypeId) (w : World) : (Instr.typeAssert (.iface t v) s 104 true).run Try.prog w = .ok (if t = 104 then .tuple #[v, .bool true] else .tuple #[.pointer none, .bool false]) w := ta_ptr t s 104 _ v w Try.underlying104 (by kernel_rfl)
theorem tn104 (s : TypeId) (w : World) : (Instr.typeAssert .nilIface s 104 true).run Try.prog w = .ok (.tuple #[.pointer none, .bool false]) w := ta_nil s 104 _ w Try.underlying104 (by kernel_rfl)
theorem ta107 (t : TypeId) (v : Value) (s : TypeId) (w : World) : (Instr.typeAssert (.iface t v) s 107 true).run Try.prog w = .ok (if t = 107 then .tuple #[v, .bool true] else .tuple #[.pointer none, .bool false]) w := ta_ptr t s 107 _ v w Try.underlying107 (by kernel_rfl)
theorem tn107 (s : TypeId) (w : World) : (Instr.typeAssert .nilIface s 107 true).run Try.prog w = .ok (.tuple #[.pointer none, .bool false]) w := ta_nil s 107 _ w Try.underlying107 (by kernel_rfl)
theorem ta112 (t : TypeId) (v : Value) (s : TypeId) (w : World) : (Instr.typeAssert (.iface t v) s 112 true).run Try.prog w = .ok (if t = 112 then .tuple #[v, .bool true] else .tuple #[.pointer none, .bool false]) w := ta_ptr t s 112 _ v w Try.underlying112 (by kernel_rfl)
theorem tn112 (s : TypeId) (w : World) : (Instr.typeAssert .nilIface s 112 true).run Try.prog w = .ok (.tuple #[.pointer none, .bool false]) w := ta_nil s 112 _ w Try.underlying112 (by kernel_rfl)
attribute [go_sem] ta40 tn40 ta46 tn46 ta50 tn50 ta51 tn51 ta54 tn54 ta65 tn65 ta74 tn74 ta78 tn78 ta83 tn83 ta89 tn89 ta101 tn101 ta102 tn102 ta104 tn104 ta107 tn107 ta112 tn112
set_option maxHeartbeats 1000000 in
theorem eq_any (A B : Option Addr) (n m c d : Nat) (us vs : List Int) (w : World) (hs : Sl w w.heap.size A n (us.map (Value.int .u16))) (ht : Sl w w.heap.size B m (vs.map (Value.int .u16))) (hnb : n ≤ 9223372036854775807) (hmb : m ≤ 9223372036854775807) :
    Calls Try.prog 22 #[.slice A n c, .slice B m d] w fun e w' => e = .returned (.bool (decide (us = vs))) ∧ w = w' := by
  have h1 : us.length = n := by have := hs.1; simpa using this
  have h2 : vs.length = m := by have := ht.1; simpa using this
  by_cases hnm : n = m
  · subst hnm
    have H1 := Lib.hid h1
    have H2 := Lib.hid h2
    clear h1 h2
    go_enter Try.func22, Try.ntmps22
    go_wp2_with fail
    go_loop [14, 5, 6] (fun i _ _ => ∃ k : Nat, k ≤ n ∧ i = .int .i64 k ∧ Hid (us.take k = vs.take k)) (fun i _ _ => n - (intOf i).toNat)
    case atStart => exact ⟨0, by omega, rfl, rfl⟩
    case round =>
      obtain ⟨k, hk, rfl, HEQ⟩ := hrel
      by_cases hlt : k < n
      · obtain ⟨b1, o1, u1, rfl, _, hu1, hc1⟩ := hs.at_ hlt
        obtain ⟨b2, o2, u2, rfl, _, hu2, hc2⟩ := ht.at_ hlt
        obtain ⟨x, hx, rfl⟩ : ∃ x, us[k]? = some x ∧ Value.int .u16 x = u1 := by simpa using hu1
        obtain ⟨y, hy, rfl⟩ : ∃ y, vs[k]? = some y ∧ Value.int .u16 y = u2 := by simpa using hu2
        have HX := Lib.hid hx
        have HY := Lib.hid hy
        clear hx hy hu1 hu2
        cases hxy : (x != y)
        · go_wp2_with fail
          go_round
          case rel =>
            refine ⟨k + 1, by omega, by go_num, ?_⟩
            show us.take (k + 1) = vs.take (k + 1)
            rw [take_snoc' us k x HX.out, take_snoc' vs k y HY.out, HEQ.out]
            simp at hxy; rw [hxy]
          case measure => simp [intOf]; omega
        · go_wp2_with fail
          go_ret
          refine ⟨ret_bool ?_, rfl⟩
          symm
          rw [decide_eq_false_iff_not]
          intro e
          have a := HX.out
          have b := HY.out
          rw [e] at a
          rw [a] at b
          simp at hxy
          exact hxy (by injection b)
      · obtain rfl : k = n := by omega
        go_wp2_with fail
        go_ret
        refine ⟨ret_bool ?_, rfl⟩
        have e := HEQ.out
        rw [List.take_of_length_le (by rw [H1.out]; exact Nat.le_refl _), List.take_of_length_le (by rw [H2.out]; exact Nat.le_refl _)] at e
        simp [e]
  · have H1 := Lib.hid h1
    have H2 := Lib.hid h2
    have e1 : ((n : Int) == (m : Int)) = false := by rw [beq_eq_false_iff_ne]; omega
    have e2 : (n == m) = false := by rw [beq_eq_false_iff_ne]; omega
    clear h1 h2
    go_enter Try.func22, Try.ntmps22
    go_wp2_with fail
    go_ret
    refine ⟨ret_bool ?_, rfl⟩
    symm
    rw [decide_eq_false_iff_not]
    intro e
    have a := H1.out
    have b := H2.out
    rw [e] at a
    omega
/-- Two strings by CheckEqualityIfNoSideEffects, then by ValuesLookTheSame. -/
def Quiet (r : Value) (w : World) (e : Ending) (w' : World) : Prop := e = .returned r ∧ ∃ n, w' = w.drewN n
set_option maxRecDepth 100000 in
theorem chk_str (p q : Nat) (A B : Option Addr) (n m c d : Nat) (us vs : List Int) (w : World) (hp : w.cell? ⟨p, 0, none⟩ = some (.slice A n c)) (hq : w.cell? ⟨q, 0, none⟩ = some (.slice B m d)) (hs : Sl w w.heap.size A n (us.map (Value.int .u16))) (ht : Sl w w.heap.size B m (vs.map (Value.int .u16))) (hnb : n ≤ 9223372036854775807) (hmb : m ≤ 9223372036854775807) :
    Calls Try.prog 18 #[.iface 54 (.pointer (some ⟨p, 0, none⟩)), .iface 54 (.pointer (some ⟨q, 0, none⟩)), .int .u8 1] w (Quiet (.tuple #[.bool (decide (us = vs)), .bool true]) w) := by
  have K := Lib.hid (show ∀ x, Calls Try.prog 22 #[.slice A n c, .slice B m d] (w.drewN x) fun e w' => e = .returned (.bool (decide (us = vs))) ∧ w' = w.drewN x from fun x => (eq_any A B n m c d us vs (w.drewN x) hs ht hnb hmb).mono fun _ _ h => ⟨h.1, h.2.symm⟩)
  clear hs ht hnb hmb
  generalize decide (us = vs) = r at *
  go_enter Try.func18, Try.ntmps18
  go_wp2_with fail
  go_quiet ((go_at_call 22; exact Calls.quiet_of_same (K.out _)))
  go_wp2_with fail
  go_ret2
  exact ⟨rfl, _, rfl⟩
set_option maxRecDepth 100000 in
theorem vl_str (p q : Nat) (A B : Option Addr) (n m c d : Nat) (us vs : List Int) (w : World) (hp : w.cell? ⟨p, 0, none⟩ = some (.slice A n c)) (hq : w.cell? ⟨q, 0, none⟩ = some (.slice B m d)) (hs : Sl w w.heap.size A n (us.map (Value.int .u16))) (ht : Sl w w.heap.size B m (vs.map (Value.int .u16))) (hnb : n ≤ 9223372036854775807) (hmb : m ≤ 9223372036854775807) :
    Calls Try.prog 10 #[.iface 54 (.pointer (some ⟨p, 0, none⟩)), .iface 54 (.pointer (some ⟨q, 0, none⟩))] w (Quiet (.bool (decide (us = vs))) w) := by
  have K := Lib.hid (chk_str p q A B n m c d us vs w hp hq hs ht hnb hmb)
  clear hs ht hnb hmb hp hq
  generalize decide (us = vs) = r at *
  go_enter Try.func10, Try.ntmps10
  go_wp2_with fail
  refine K.out.mono ?_
  rintro e w1 ⟨rfl, x, rfl⟩
  go_wp2_with fail
  go_ret
  exact ⟨rfl, _, rfl⟩
set_option maxRecDepth 100000 in
theorem chk_dot (U : TypeId) (v u : Value) (w : World) (hU : ¬ U = 65) : Calls Try.prog 18 #[.iface 46 v, .iface U u, .int .u8 1] w fun e w' => e = .returned (.tuple #[.bool false, .bool false]) ∧ w = w' := by
  go_enter Try.func18, Try.ntmps18
  go_wp2_with fail
  go_ret2
  exact ⟨rfl, rfl⟩
set_option maxRecDepth 100000 in
theorem chk_idx (U : TypeId) (v u : Value) (w : World) (hU : ¬ U = 65) : Calls Try.prog 18 #[.iface 50 v, .iface U u, .int .u8 1] w fun e w' => e = .returned (.tuple #[.bool false, .bool false]) ∧ w = w' := by
  go_enter Try.func18, Try.ntmps18
  go_wp2_with fail
  go_ret2
  exact ⟨rfl, rfl⟩
set_option maxRecDepth 100000 in
theorem chk_call (U : TypeId) (v u : Value) (w : World) (hU : ¬ U = 65) : Calls Try.prog 18 #[.iface 51 v, .iface U u, .int .u8 1] w fun e w' => e = .returned (.tuple #[.bool false, .bool false]) ∧ w = w' := by
  go_enter Try.func18, Try.ntmps18
  go_wp2_with fail
  go_ret2
  exact ⟨rfl, rfl⟩
set_option maxRecDepth 100000 in
theorem chk_id (U : TypeId) (v u : Value) (w : World) (hU : ¬ U = 65) : Calls Try.prog 18 #[.iface 40 v, .iface U u, .int .u8 1] w fun e w' => e = .returned (.tuple #[.bool false, .bool false]) ∧ w = w' := by
  go_enter Try.func18, Try.ntmps18
  go_wp2_with fail
  go_ret2
  exact ⟨rfl, rfl⟩

end Go.Proofs.Ytdjiekejkjgamaa
