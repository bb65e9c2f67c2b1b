/-
  Lemmas shared by several laws of this seat; no statement of their own.
-/
import Derived.Test.YtaljndnoeiocdabRows
import Derived.WalkKit
import Derived.ProofKit
import Derived.OpenShut
import Derived.Test.YtaljndnoeiocdabNumF
import Derived.WalkSpells
import Derived.Deep.QuietTactic
import Derived.BigQuiet
namespace Go.Proofs.Ytaljndnoeiocdab
open Go.ChangeShapes Go.WideShapes Go.ChangeAt Go.RowKit

set_option linter.unusedVariables false

theorem ta_ptr {P : Program} (t s T e : TypeId) (v : Value) (w : World) (hu : P.underlying T = some (.pointer e)) (hz : (zeroValue T).run P w = .ok (.pointer none) w) :
    (Instr.typeAssert (.iface t v) s T true).run P w = .ok (if t = T then .tuple #[v, .bool true] else .tuple #[.pointer none, .bool false]) w := by
  by_cases h : t = T <;> simp [Instr.typeAssert, run_underlying hu, hz, h]
theorem ta_nil {P : Program} (s T e : TypeId) (w : World) (hu : P.underlying T = some (.pointer e)) (hz : (zeroValue T).run P w = .ok (.pointer none) w) :
    (Instr.typeAssert .nilIface s T true).run P w = .ok (.tuple #[.pointer none, .bool false]) w := by
  simp [Instr.typeAssert, run_underlying hu, hz]
theorem ta23 (t : TypeId) (v : Value) (s : TypeId) (w : World) : (Instr.typeAssert (.iface t v) s 23 true).run Try.prog w = .ok (if t = 23 then .tuple #[v, .bool true] else .tuple #[.pointer none, .bool false]) w := ta_ptr t s 23 _ v w Try.underlying23 (by kernel_rfl)
theorem tn23 (s : TypeId) (w : World) : (Instr.typeAssert .nilIface s 23 true).run Try.prog w = .ok (.tuple #[.pointer none, .bool false]) w := ta_nil s 23 _ w Try.underlying23 (by kernel_rfl)
theorem ta32 (t : TypeId) (v : Value) (s : TypeId) (w : World) : (Instr.typeAssert (.iface t v) s 32 true).run Try.prog w = .ok (if t = 32 then .tuple #[v, .bool true] else .tuple #[.pointer none, .bool false]) w := ta_ptr t s 32 _ v w Try.underlying32 (by kernel_rfl)
theorem tn32 (s : TypeId) (w : World) : (Instr.typeAssert .nilIface s 32 true).run Try.prog w = .ok (.tuple #[.pointer none, .bool false]) w := ta_nil s 32 _ w Try.underlying32 (by kernel_rfl)
theorem ta45 (t : TypeId) (v : Value) (s : TypeId) (w : World) : (Instr.typeAssert (.iface t v) s 45 true).run Try.prog w = .ok (if t = 45 then .tuple #[v, .bool true] else .tuple #[.pointer none, .bool false]) w := ta_ptr t s 45 _ v w Try.underlying45 (by kernel_rfl)
theorem tn45 (s : TypeId) (w : World) : (Instr.typeAssert .nilIface s 45 true).run Try.prog w = .ok (.tuple #[.pointer none, .bool false]) w := ta_nil s 45 _ w Try.underlying45 (by kernel_rfl)
theorem ta52 (t : TypeId) (v : Value) (s : TypeId) (w : World) : (Instr.typeAssert (.iface t v) s 52 true).run Try.prog w = .ok (if t = 52 then .tuple #[v, .bool true] else .tuple #[.pointer none, .bool false]) w := ta_ptr t s 52 _ v w Try.underlying52 (by kernel_rfl)
theorem tn52 (s : TypeId) (w : World) : (Instr.typeAssert .nilIface s 52 true).run Try.prog w = .ok (.tuple #[.pointer none, .bool false]) w := ta_nil s 52 _ w Try.underlying52 (by kernel_rfl)
theorem ta58 (t : TypeId) (v : Value) (s : TypeId) (w : World) : (Instr.typeAssert (.iface t v) s 58 true).run Try.prog w = .ok (if t = 58 then .tuple #[v, .bool true] else .tuple #[.pointer none, .bool false]) w := ta_ptr t s 58 _ v w Try.underlying58 (by kernel_rfl)
theorem tn58 (s : TypeId) (w : World) : (Instr.typeAssert .nilIface s 58 true).run Try.prog w = .ok (.tuple #[.pointer none, .bool false]) w := ta_nil s 58 _ w Try.underlying58 (by kernel_rfl)
theorem ta63 (t : TypeId) (v : Value) (s : TypeId) (w : World) : (Instr.typeAssert (.iface t v) s 63 true).run Try.prog w = .ok (if t = 63 then .tuple #[v, .bool true] else .tuple #[.pointer none, .bool false]) w := ta_ptr t s 63 _ v w Try.underlying63 (by kernel_rfl)
theorem tn63 (s : TypeId) (w : World) : (Instr.typeAssert .nilIface s 63 true).run Try.prog w = .ok (.tuple #[.pointer none, .bool false]) w := ta_nil s 63 _ w Try.underlying63 (by kernel_rfl)
theorem ta67 (t : TypeId) (v : Value) (s : TypeId) (w : World) : (Instr.typeAssert (.iface t v) s 67 true).run Try.prog w = .ok (if t = 67 then .tuple #[v, .bool true] else .tuple #[.pointer none, .bool false]) w := ta_ptr t s 67 _ v w Try.underlying67 (by kernel_rfl)
theorem tn67 (s : TypeId) (w : World) : (Instr.typeAssert .nilIface s 67 true).run Try.prog w = .ok (.tuple #[.pointer none, .bool false]) w := ta_nil s 67 _ w Try.underlying67 (by kernel_rfl)
theorem ta72 (t : TypeId) (v : Value) (s : TypeId) (w : World) : (Instr.typeAssert (.iface t v) s 72 true).run Try.prog w = .ok (if t = 72 then .tuple #[v, .bool true] else .tuple #[.pointer none, .bool false]) w := ta_ptr t s 72 _ v w Try.underlying72 (by kernel_rfl)
theorem tn72 (s : TypeId) (w : World) : (Instr.typeAssert .nilIface s 72 true).run Try.prog w = .ok (.tuple #[.pointer none, .bool false]) w := ta_nil s 72 _ w Try.underlying72 (by kernel_rfl)
theorem ta76 (t : TypeId) (v : Value) (s : TypeId) (w : World) : (Instr.typeAssert (.iface t v) s 76 true).run Try.prog w = .ok (if t = 76 then .tuple #[v, .bool true] else .tuple #[.pointer none, .bool false]) w := ta_ptr t s 76 _ v w Try.underlying76 (by kernel_rfl)
theorem tn76 (s : TypeId) (w : World) : (Instr.typeAssert .nilIface s 76 true).run Try.prog w = .ok (.tuple #[.pointer none, .bool false]) w := ta_nil s 76 _ w Try.underlying76 (by kernel_rfl)
theorem ta90 (t : TypeId) (v : Value) (s : TypeId) (w : World) : (Instr.typeAssert (.iface t v) s 90 true).run Try.prog w = .ok (if t = 90 then .tuple #[v, .bool true] else .tuple #[.pointer none, .bool false]) w := ta_ptr t s 90 _ v w Try.underlying90 (by kernel_rfl)
theorem tn90 (s : TypeId) (w : World) : (Instr.typeAssert .nilIface s 90 true).run Try.prog w = .ok (.tuple #[.pointer none, .bool false]) w := ta_nil s 90 _ w Try.underlying90 (by kernel_rfl)
theorem ta91 (t : TypeId) (v : Value) (s : TypeId) (w : World) : (Instr.typeAssert (.iface t v) s 91 true).run Try.prog w = .ok (if t = 91 then .tuple #[v, .bool true] else .tuple #[.pointer none, .bool false]) w := ta_ptr t s 91 _ v w Try.underlying91 (by kernel_rfl)
theorem tn91 (s : TypeId) (w : World) : (Instr.typeAssert .nilIface s 91 true).run Try.prog w = .ok (.tuple #[.pointer none, .bool false]) w := ta_nil s 91 _ w Try.underlying91 (by kernel_rfl)
theorem ta93 (t : TypeId) (v : Value) (s : TypeId) (w : World) : (Instr.typeAssert (.iface t v) s 93 true).run Try.prog w = .ok (if t = 93 then .tuple #[v, .bool true] else .tuple #[.pointer none, .bool false]) w := ta_ptr t s 93 _ v w Try.underlying93 (by kernel_rfl)
theorem tn93 (s : TypeId) (w : World) : (Instr.typeAssert .nilIface s 93 true).run Try.prog w = .ok (.tuple #[.pointer none, .bool false]) w := ta_nil s 93 _ w Try.underlying93 (by kernel_rfl)
theorem ta96 (t : TypeId) (v : Value) (s : TypeId) (w : World) : (Instr.typeAssert (.iface t v) s 96 true).run Try.prog w = .ok (if t = 96 then .tuple #[v, .bool true] else .tuple #[.pointer none, .bool false]) w := ta_ptr t s 96 _ v w Try.underlying96 (by kernel_rfl)
theorem tn96 (s : TypeId) (w : World) : (Instr.typeAssert .nilIface s 96 true).run Try.prog w = .ok (.tuple #[.pointer none, .bool false]) w := ta_nil s 96 _ w Try.underlying96 (by kernel_rfl)
theorem ta100 (t : TypeId) (v : Value) (s : TypeId) (w : World) : (Instr.typeAssert (.iface t v) s 100 true).run Try.prog w = .ok (if t = 100 then .tuple #[v, .bool true] else .tuple #[.pointer none, .bool false]) w := ta_ptr t s 100 _ v w Try.underlying100 (by kernel_rfl)
theorem tn100 (s : TypeId) (w : World) : (Instr.typeAssert .nilIface s 100 true).run Try.prog w = .ok (.tuple #[.pointer none, .bool false]) w := ta_nil s 100 _ w Try.underlying100 (by kernel_rfl)
theorem ta103 (t : TypeId) (v : Value) (s : TypeId) (w : World) : (Instr.typeAssert (.iface t v) s 103 true).run Try.prog w = .ok (if t = 103 then .tuple #[v, .bool true] else .tuple #[.pointer none, .bool false]) w := ta_ptr t s 103 _ v w Try.underlying103 (by kernel_rfl)
theorem tn103 (s : TypeId) (w : World) : (Instr.typeAssert .nilIface s 103 true).run Try.prog w = .ok (.tuple #[.pointer none, .bool false]) w := ta_nil s 103 _ w Try.underlying103 (by kernel_rfl)
attribute [go_sem] ta23 tn23 ta32 tn32 ta45 tn45 ta52 tn52 ta58 tn58 ta63 tn63 ta67 tn67 ta72 tn72 ta76 tn76 ta90 tn90 ta91 tn91 ta93 tn93 ta96 tn96 ta100 tn100 ta103 tn103
theorem ret_true {b : Bool} (h : b = true) : Ending.returned (.bool b) = .returned (.bool true) := by rw [h]
theorem ret_bool {a b : Bool} (h : a = b) : Ending.returned (.bool a) = .returned (.bool b) := by rw [h]
theorem bits_run (b : Nat) (w : World) : (callFunc 19 #[.float .f64 b]).run Try.prog w = .ok (.value (.int .u64 b)) w := by kernel_rfl
theorem sign_any (b : Nat) (w : World) (hb : b < 18446744073709551616) : Calls Try.prog 16 #[.float .f64 b] w fun e w' => e = .returned (.bool (sgn b)) ∧ w = w' := by
  have hr := fun w => bits_run b w
  have HB := Lib.hid hb
  clear hb
  go_enter Try.func16, Try.ntmps16
  go_wp2_with fail
  go_ret
  exact ⟨rfl, rfl⟩
def pinf : Nat := 9218868437227405312
def ninf : Nat := 18442240474082181120
theorem q0 (w : World) : (binOp .quo 22 (.float .f64 4607182418800017408) (.float .f64 0)).run Try.prog w = .ok (.float .f64 pinf) w := run_float_arith w .quo _ _ _ _ _ (by decide +kernel)
theorem q1 (w : World) : (binOp .quo 22 (.float .f64 4607182418800017408) (.float .f64 top63)).run Try.prog w = .ok (.float .f64 ninf) w := run_float_arith w .quo _ _ _ _ _ (by decide +kernel)
theorem facts : (FloatKind.f64.format.order pinf pinf == some .eq) = true ∧ (FloatKind.f64.format.order pinf ninf == some .eq) = false ∧ (FloatKind.f64.format.order ninf pinf == some .eq) = false ∧ (FloatKind.f64.format.order ninf ninf == some .eq) = true := by decide +kernel
theorem Rs : R 0 0 = true ∧ R 0 top63 = false ∧ R top63 0 = false ∧ R top63 top63 = true := by decide +kernel
theorem zs : eqF 0 0 = true ∧ eqF 0 top63 = true ∧ eqF top63 0 = true ∧ eqF top63 top63 = true ∧ zeroF 0 = true ∧ zeroF top63 = true := by decide +kernel
theorem num_zero (a b : Nat) (w : World) (ha : a = 0 ∨ a = top63) (hb : b = 0 ∨ b = top63) : Calls Try.prog 6 #[.float .f64 a, .float .f64 b] w fun e w' => e = .returned (.bool (R a b)) ∧ w = w' := by
  obtain ⟨f1, f2, f3, f4⟩ := facts
  obtain ⟨r1, r2, r3, r4⟩ := Rs
  obtain ⟨s1, s2, s3, s4, s5, s6⟩ := zs
  have g1 := fun w => q0 w
  have g2 := fun w => q1 w
  unfold eqF zeroF at *
  rcases ha with rfl | rfl <;> rcases hb with rfl | rfl
  all_goals
    first | rw [r1] | rw [r2] | rw [r3] | rw [r4]
    clear r1 r2 r3 r4
    go_enter Try.func6, Try.ntmps6
    go_wp2_with fail
    go_ret
    exact ⟨rfl, rfl⟩
theorem num_any (a b : Nat) (w : World) (ha : a < 18446744073709551616) (hb : b < 18446744073709551616) : Calls Try.prog 6 #[.float .f64 a, .float .f64 b] w fun e w' => e = .returned (.bool (R a b)) ∧ w = w' := by
  have HA := Lib.hid ha
  have HB := Lib.hid hb
  clear ha hb
  cases t1 : eqF a b
  · have hR : R a b = false := by unfold R; rw [t1]; rfl
    rw [hR]
    have t2 : (FloatKind.f64.format.order a b == some .eq) = false := t1
    have t2' : (FloatKind.f64.format.order a b != some .eq) = true := by unfold bne; rw [t2]; rfl
    clear t1 hR
    go_enter Try.func6, Try.ntmps6
    go_wp2_with fail
    go_ret
    exact ⟨rfl, rfl⟩
  · cases t2 : zeroF a
    · have hR : R a b = true := by unfold R; rw [t1, t2]; rfl
      rw [hR]
      have t3 : (FloatKind.f64.format.order a b == some .eq) = true := t1
      have t4 : (FloatKind.f64.format.order a 0 == some .eq) = false := t2
      have t3' : (FloatKind.f64.format.order a b != some .eq) = false := by unfold bne; rw [t3]; rfl
      have t4' : (FloatKind.f64.format.order a 0 != some .eq) = true := by unfold bne; rw [t4]; rfl
      clear t1 t2 hR
      go_enter Try.func6, Try.ntmps6
      go_wp2_with fail
      go_ret
      exact ⟨rfl, rfl⟩
    · have za := zero_bits a HA.out t2
      have t3 : zeroF b = true := by rw [← eqF_zero a b za]; exact t1
      exact num_zero a b w za (zero_bits b HB.out t3)
set_option maxRecDepth 100000 in
theorem chk_any (p q a b : Nat) (w : World) (ha : w.cell? ⟨p, 0, none⟩ = some (.float .f64 a)) (hb : w.cell? ⟨q, 0, none⟩ = some (.float .f64 b)) :
    Calls Try.prog 17 #[.iface 23 (.pointer (some ⟨p, 0, none⟩)), .iface 23 (.pointer (some ⟨q, 0, none⟩)), .int .u8 1] w fun e w' => e = .returned (.tuple #[.bool (eqF a b), .bool true]) ∧ ∃ n, w' = w.drewN n := by
  go_enter Try.func17, Try.ntmps17
  go_wp2_with fail
  go_quiet (fail)
  go_wp2_with fail
  go_ret2
  exact ⟨rfl, _, rfl⟩
set_option maxRecDepth 100000 in
set_option maxHeartbeats 2000000 in
theorem nn_any (p q a b : Nat) (w : World) (ha : w.cell? ⟨p, 0, none⟩ = some (.float .f64 a)) (hb : w.cell? ⟨q, 0, none⟩ = some (.float .f64 b)) (la : a < 18446744073709551616) (lb : b < 18446744073709551616) :
    Calls Try.prog 7 #[.iface 23 (.pointer (some ⟨p, 0, none⟩)), .iface 23 (.pointer (some ⟨q, 0, none⟩))] w fun e w' => e = .returned (.bool (R a b)) ∧ ∃ n, w' = w.drewN n := by
  have LA := Lib.hid la
  have LB := Lib.hid lb
  clear la lb
  have HR := Lib.hid (show R a b = (eqF a b && !(zeroF a && zeroF b && (sgn a != sgn b))) from rfl)
  cases t1 : zeroF a <;> cases t2 : zeroF b <;> cases s1 : sgn a <;> cases s2 : sgn b
  all_goals
    rw [t1, t2, s1, s2] at HR
    have S1 := Lib.hid s1
    have S2 := Lib.hid s2
    clear s1 s2
    have u1 : (FloatKind.f64.format.order a 0 == some .eq) = _ := t1
    have u2 : (FloatKind.f64.format.order b 0 == some .eq) = _ := t2
    clear t1 t2
    go_enter Try.func7, Try.ntmps7
    go_wp2_with fail
    go_quiet ((go_at_call 16; first | exact Calls.quiet_of_same ((sign_any a _ LA.out).mono fun _ _ h => ⟨by rw [h.1, S1.out], h.2.symm⟩) | exact Calls.quiet_of_same ((sign_any b _ LB.out).mono fun _ _ h => ⟨by rw [h.1, S2.out], h.2.symm⟩)))
    go_wp2_with fail
    first
      | (go_ret; exact ⟨ret_bool (by rw [HR.out]; simp), _, rfl⟩)
      | (refine (chk_any p q a b _ (by simpa using ha) (by simpa using hb)).mono ?_
         rintro e w1 ⟨rfl, n1, rfl⟩
         go_wp2_with fail
         go_ret
         exact ⟨ret_bool (by rw [HR.out]; simp), _, rfl⟩)

end Go.Proofs.Ytaljndnoeiocdab
