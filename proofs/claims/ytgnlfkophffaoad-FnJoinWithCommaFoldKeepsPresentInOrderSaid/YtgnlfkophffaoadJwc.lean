/-
  Lemmas shared by several laws of this seat; no statement of their own.
-/
import Derived.Test.YtgnlfkophffaoadRows
import Derived.WalkKit
import Derived.ProofKit
import Derived.OpenShut
import Derived.Test.YtgnlfkophffaoadSlW
import Derived.Test.YtgnlfkophffaoadExtW
import Derived.WalkLawsBesides
import Derived.WalkSpells
import Derived.Below
import Derived.Lib.Hide
import Derived.Outline
import Derived.OwnWalk
import Derived.Laws.OwnMore
namespace Go.Proofs.Ytgnlfkophffaoad
open Go.ChangeShapes Go.WideShapes Go.ChangeAt Go.RowKit

set_option linter.unusedVariables false

theorem ta_ptr {P : Program} (t s T e : TypeId) (v : Value) (w : World) (hu : P.underlying T = some (.pointer e)) (hz : (zeroValue T).run P w = .ok (.pointer none) w) :
    (Instr.typeAssert (.iface t v) s T true).run P w = .ok (if t = T then .tuple #[v, .bool true] else .tuple #[.pointer none, .bool false]) w := by
  by_cases h : t = T <;> simp [Instr.typeAssert, run_underlying hu, hz, h]
theorem ta_nil {P : Program} (s T e : TypeId) (w : World) (hu : P.underlying T = some (.pointer e)) (hz : (zeroValue T).run P w = .ok (.pointer none) w) :
    (Instr.typeAssert .nilIface s T true).run P w = .ok (.tuple #[.pointer none, .bool false]) w := by
  simp [Instr.typeAssert, run_underlying hu, hz]
theorem ta33 (t : TypeId) (v : Value) (s : TypeId) (w : World) : (Instr.typeAssert (.iface t v) s 33 true).run Try.prog w = .ok (if t = 33 then .tuple #[v, .bool true] else .tuple #[.pointer none, .bool false]) w := ta_ptr t s 33 _ v w Try.underlying33 (by kernel_rfl)
theorem tn33 (s : TypeId) (w : World) : (Instr.typeAssert .nilIface s 33 true).run Try.prog w = .ok (.tuple #[.pointer none, .bool false]) w := ta_nil s 33 _ w Try.underlying33 (by kernel_rfl)
theorem ta38 (t : TypeId) (v : Value) (s : TypeId) (w : World) : (Instr.typeAssert (.iface t v) s 38 true).run Try.prog w = .ok (if t = 38 then .tuple #[v, .bool true] else .tuple #[.pointer none, .bool false]) w := ta_ptr t s 38 _ v w Try.underlying38 (by kernel_rfl)
theorem tn38 (s : TypeId) (w : World) : (Instr.typeAssert .nilIface s 38 true).run Try.prog w = .ok (.tuple #[.pointer none, .bool false]) w := ta_nil s 38 _ w Try.underlying38 (by kernel_rfl)
attribute [go_sem] ta33 tn33 ta38 tn38
/-- A left-nested chain of commas over numbers: the list is (index, block), the last operand first. -/
def Ch (w : World) (lo hi : Nat) : List (Nat × Nat) → Value → Int → Prop
  | [], d, _ => d = .nilIface
  | [q], d, l => d = .iface 33 (.pointer (some ⟨q.2, 0, none⟩)) ∧ l = (q.1 : Int)
  | q :: r :: ps, d, l => ∃ B d', d = .iface 38 (.pointer (some ⟨B, 0, none⟩)) ∧ lo ≤ B ∧ B < hi ∧ w.cell? ⟨B, 0, none⟩ = some d' ∧ w.cell? ⟨B, 1, none⟩ = some (.int .i32 l) ∧ w.cell? ⟨B, 2, none⟩ = some (.iface 33 (.pointer (some ⟨q.2, 0, none⟩))) ∧ w.cell? ⟨B, 3, none⟩ = some (.int .i32 (q.1 : Int)) ∧ w.cell? ⟨B, 4, none⟩ = some (.int .u8 36) ∧ w.cell? ⟨B, 5, none⟩ = some (.bool false) ∧ Ch w lo hi (r :: ps) d' l
theorem Ch.keep {w w' : World} {lo hi hi' : Nat} (hh : hi ≤ hi') (hk : ∀ b o, lo ≤ b → b < hi → w'.cell? ⟨b, o, none⟩ = w.cell? ⟨b, o, none⟩) : ∀ {ps : List (Nat × Nat)} {d : Value} {l : Int}, Ch w lo hi ps d l → Ch w' lo hi' ps d l
  | [], _, _, h => h
  | [_], _, _, h => h
  | q :: r :: ps, d, l, ⟨B, d', e, h1, h2, c0, c1, c2, c3, c4, c5, ht⟩ =>
    ⟨B, d', e, h1, by omega, by rw [hk _ _ h1 h2]; exact c0, by rw [hk _ _ h1 h2]; exact c1, by rw [hk _ _ h1 h2]; exact c2, by rw [hk _ _ h1 h2]; exact c3, by rw [hk _ _ h1 h2]; exact c4, by rw [hk _ _ h1 h2]; exact c5, Ch.keep hh hk ht⟩
theorem Ch.shape {w : World} {lo hi : Nat} : ∀ {ps : List (Nat × Nat)} {d : Value} {l : Int}, Ch w lo hi ps d l → (ps = [] ∧ d = .nilIface) ∨ (ps ≠ [] ∧ ∃ T v, d = .iface T v)
  | [], _, _, h => .inl ⟨rfl, h⟩
  | [_], _, _, h => .inr ⟨by simp, _, _, h.1⟩
  | _ :: _ :: _, _, _, ⟨_, _, e, _⟩ => .inr ⟨by simp, _, _, e⟩
/-- What JoinWithComma hands back of two nodes that are there. -/
def Joined (d e : Value) (l k : Int) (w : World) (x : Ending) (w' : World) : Prop :=
  ∃ B, x = .returned (.agg #[.iface 38 (.pointer (some ⟨B, 0, none⟩)), .int .i32 l]) ∧ w.heap.size ≤ B ∧ B < w'.heap.size ∧ w'.cell? ⟨B, 0, none⟩ = some d ∧ w'.cell? ⟨B, 1, none⟩ = some (.int .i32 l) ∧ w'.cell? ⟨B, 2, none⟩ = some e ∧ w'.cell? ⟨B, 3, none⟩ = some (.int .i32 k) ∧ w'.cell? ⟨B, 4, none⟩ = some (.int .u8 36) ∧ w'.cell? ⟨B, 5, none⟩ = some (.bool false) ∧ Below w.heap.size w w'
theorem jwc_left (T : TypeId) (v : Value) (l k : Int) (w : World) : Calls Try.prog 6 #[.agg #[.nilIface, .int .i32 l], .agg #[.iface T v, .int .i32 k]] w fun x w' => x = .returned (.agg #[.iface T v, .int .i32 k]) ∧ Below w.heap.size w w' := by
  go_enter Try.func6, Try.ntmps6
  go_wp2_with fail
  refine bodyPost_ret (v := .agg #[.iface T v, .int .i32 k]) (by simp [results, Try.results6, go_sem]) rfl ⟨rfl, ?_⟩
  exact (((Below.refl _ _).alloc (Nat.le_refl _) _).alloc (by simp) _).alloc (by simp <;> omega) _
theorem jwc_none (l k : Int) (w : World) : Calls Try.prog 6 #[.agg #[.nilIface, .int .i32 l], .agg #[.nilIface, .int .i32 k]] w fun x w' => x = .returned (.agg #[.nilIface, .int .i32 k]) ∧ Below w.heap.size w w' := by
  go_enter Try.func6, Try.ntmps6
  go_wp2_with fail
  refine bodyPost_ret (v := .agg #[.nilIface, .int .i32 k]) (by simp [results, Try.results6, go_sem]) rfl ⟨rfl, ?_⟩
  exact (((Below.refl _ _).alloc (Nat.le_refl _) _).alloc (by simp) _).alloc (by simp <;> omega) _
theorem jwc_right (T : TypeId) (v : Value) (l k : Int) (w : World) : Calls Try.prog 6 #[.agg #[.iface T v, .int .i32 l], .agg #[.nilIface, .int .i32 k]] w fun x w' => x = .returned (.agg #[.iface T v, .int .i32 l]) ∧ Below w.heap.size w w' := by
  go_enter Try.func6, Try.ntmps6
  go_wp2_with fail
  refine bodyPost_ret (v := .agg #[.iface T v, .int .i32 l]) (by simp [results, Try.results6, go_sem]) rfl ⟨rfl, ?_⟩
  exact (((Below.refl _ _).alloc (Nat.le_refl _) _).alloc (by simp) _).alloc (by simp <;> omega) _
theorem jwc_both (T U : TypeId) (v u : Value) (l k : Int) (w : World) : Calls Try.prog 6 #[.agg #[.iface T v, .int .i32 l], .agg #[.iface U u, .int .i32 k]] w (Joined (.iface T v) (.iface U u) l k w) := by
  go_enter Try.func6, Try.ntmps6
  go_wp2_with fail
  refine bodyPost_ret (v := .agg #[.iface 38 (.pointer (some ⟨w.heap.size + 3, 0, none⟩)), .int .i32 l]) (by simp [results, Try.results6, go_sem]) rfl ⟨w.heap.size + 3, rfl, by omega, by simp, by simp [go_sem], by simp [go_sem], by simp [go_sem], by simp [go_sem], by simp [go_sem], by simp [go_sem], ?_⟩
  exact ((((Below.refl _ _).alloc (Nat.le_refl _) _).alloc (by simp) _).alloc (by simp <;> omega) _).alloc (by simp <;> omega) _

end Go.Proofs.Ytgnlfkophffaoad
