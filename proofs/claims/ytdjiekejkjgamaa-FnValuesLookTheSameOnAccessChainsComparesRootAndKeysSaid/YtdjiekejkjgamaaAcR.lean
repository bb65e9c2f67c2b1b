/-
  Lemmas shared by several laws of this seat; no statement of their own.
-/
import Derived.Test.YtdjiekejkjgamaaRows
import Derived.WalkKit
import Derived.ProofKit
import Derived.OpenShut
import Derived.Test.YtdjiekejkjgamaaSlW
import Derived.Test.YtdjiekejkjgamaaAcU
import Derived.WalkLawsBesides
import Derived.WalkSpells
import Derived.Below
import Derived.Lib.Hide
import Derived.Outline
import Derived.LoopTactic
import Derived.Deep.QuietTactic
import Derived.BigQuiet
namespace Go.Proofs.Ytdjiekejkjgamaa
open Go.ChangeShapes Go.WideShapes Go.ChangeAt Go.RowKit

set_option linter.unusedVariables false

set_option maxRecDepth 100000 in
theorem vl_id_other (U : TypeId) (v u : Value) (w : World) (hU : ¬ U = 65) (hT : ¬ U = 40) : Calls Try.prog 10 #[.iface 40 v, .iface U u] w (Quiet (.bool false) w) := by
  go_enter Try.func10, Try.ntmps10
  go_wp2_with fail
  go_quiet (fail)
  go_wp2_with fail
  refine (chk_id U v u _ hU).mono ?_
  rintro e w1 ⟨rfl, rfl⟩
  go_wp2_with fail
  go_ret
  exact ⟨rfl, _, rfl⟩
set_option maxRecDepth 100000 in
theorem vl_dot_other (U : TypeId) (v u : Value) (w : World) (hU : ¬ U = 65) (hT : ¬ U = 46) : Calls Try.prog 10 #[.iface 46 v, .iface U u] w (Quiet (.bool false) w) := by
  go_enter Try.func10, Try.ntmps10
  go_wp2_with fail
  go_quiet (fail)
  go_wp2_with fail
  refine (chk_dot U v u _ hU).mono ?_
  rintro e w1 ⟨rfl, rfl⟩
  go_wp2_with fail
  go_ret
  exact ⟨rfl, _, rfl⟩
set_option maxRecDepth 100000 in
theorem vl_idx_other (U : TypeId) (v u : Value) (w : World) (hU : ¬ U = 65) (hT : ¬ U = 50) : Calls Try.prog 10 #[.iface 50 v, .iface U u] w (Quiet (.bool false) w) := by
  go_enter Try.func10, Try.ntmps10
  go_wp2_with fail
  go_quiet (fail)
  go_wp2_with fail
  refine (chk_idx U v u _ hU).mono ?_
  rintro e w1 ⟨rfl, rfl⟩
  go_wp2_with fail
  go_ret
  exact ⟨rfl, _, rfl⟩
set_option maxRecDepth 100000 in
theorem vl_call_other (U : TypeId) (v u : Value) (w : World) (hU : ¬ U = 65) (hT : ¬ U = 51) : Calls Try.prog 10 #[.iface 51 v, .iface U u] w (Quiet (.bool false) w) := by
  go_enter Try.func10, Try.ntmps10
  go_wp2_with fail
  go_quiet (fail)
  go_wp2_with fail
  refine (chk_call U v u _ hU).mono ?_
  rintro e w1 ⟨rfl, rfl⟩
  go_wp2_with fail
  go_ret
  exact ⟨rfl, _, rfl⟩
set_option maxRecDepth 100000 in
theorem vl_id (p q : Nat) (a b : Int) (w : World) (p0 : w.cell? ⟨p, 0, none⟩ = some (.int .u32 0)) (p1 : w.cell? ⟨p, 1, none⟩ = some (.int .u32 a)) (q0 : w.cell? ⟨q, 0, none⟩ = some (.int .u32 0)) (q1 : w.cell? ⟨q, 1, none⟩ = some (.int .u32 b)) : Calls Try.prog 10 #[.iface 40 (.pointer (some ⟨p, 0, none⟩)), .iface 40 (.pointer (some ⟨q, 0, none⟩))] w (Quiet (.bool (a == b)) w) := by
  cases t : (a == b)
  · go_enter Try.func10, Try.ntmps10
    go_wp2_with fail
    go_quiet (fail)
    go_wp2_with fail
    refine (chk_id _ _ _ _ (by decide)).mono ?_
    rintro e w1 ⟨rfl, rfl⟩
    go_wp2_with fail
    go_ret
    exact ⟨rfl, _, rfl⟩
  · go_enter Try.func10, Try.ntmps10
    go_wp2_with fail
    go_quiet (fail)
    go_wp2_with fail
    go_ret
    exact ⟨rfl, _, rfl⟩

end Go.Proofs.Ytdjiekejkjgamaa
