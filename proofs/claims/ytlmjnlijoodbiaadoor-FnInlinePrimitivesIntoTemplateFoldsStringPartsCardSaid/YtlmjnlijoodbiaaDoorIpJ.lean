/-
  The small readers of the law, and the call on a tagged template; no statement of its own.
-/
import Derived.Test.YtlmjnlijoodbiaaDoorRows
import Derived.WalkKit
import Derived.ProofKit
import Derived.OpenShut
import Derived.Test.YtlmjnlijoodbiaaDoorSlW
import Derived.Test.YtlmjnlijoodbiaaDoorIpC
import Derived.Test.YtlmjnlijoodbiaaDoorIpA
import Derived.Test.YtlmjnlijoodbiaaDoorIpB
import Derived.Test.YtlmjnlijoodbiaaDoorIpR
import Derived.Test.YtlmjnlijoodbiaaDoorIpT
import Derived.Test.YtlmjnlijoodbiaaDoorIpS
import Derived.WalkLawsBesides
import Derived.WalkSpells
import Derived.Below
import Derived.Lib.Hide
import Derived.Outline
import Derived.OwnWalk
import Derived.LoopTactic
import Derived.RegionTactic
import Derived.Laws.Rows
import Derived.Deep.QuietTactic
import Derived.BigQuiet
namespace Go.Proofs.YtlmjnlijoodbiaaDoor
open Go.ChangeShapes Go.WideShapes Go.ChangeAt Go.RowKit

set_option linter.unusedVariables false

set_option maxRecDepth 100000 in
set_option maxHeartbeats 1000000 in
theorem as_template (w : World) (g : Nat) (loc : Int) : Calls Tryd.prog 10 #[.agg #[.iface 30 (ptr g), .int .i32 loc]] w fun e w' => e = .returned (.tuple #[ptr g, .bool true]) ∧ Below w.heap.size w w' := by
  go_enter Tryd.func10, Tryd.ntmps10
  go_wp2_with fail
  go_ret2
  exact ⟨rfl, (Below.refl _ _).alloc (Nat.le_refl _) _⟩
set_option maxRecDepth 100000 in
set_option maxHeartbeats 1000000 in
theorem as_string (w : World) (g : Nat) (loc : Int) (a : Option Addr) (l c : Nat) (hb : Bk w g 52 #[.slice a l c, .int .i32 0, .bool true, .bool false, .bool false]) : Calls Tryd.prog 13 #[.agg #[.iface 50 (ptr g), .int .i32 loc]] w fun e w' => e = .returned (.tuple #[.slice a l c, .bool true, .bool true]) ∧ Below w.heap.size w w' := by
  have g0 : w.cell? ⟨g, 0, none⟩ = some (.slice a l c) := hb.cell 0
  have g2 : w.cell? ⟨g, 2, none⟩ = some (.bool true) := hb.cell 2
  have zg := hb.lt
  have zg1 : g < w.heap.size + 1 := by omega
  clear hb
  go_enter Tryd.func13, Tryd.ntmps13
  go_wp2_with fail
  go_quiet (fail)
  go_wp2_with fail
  (try simp only [Exit.inBlock, Exit.then])
  refine bodyPost_ret (results_tmp3 rfl _ _ _) rfl ?_
  have h := (Below.refl w.heap.size w).alloc (Nat.le_refl _) (.cells #[.iface 50 (ptr g), .int .i32 loc] 37)
  exact ⟨rfl, h.1, h.2, h.3, h.4, h.5⟩
set_option maxRecDepth 100000 in
set_option maxHeartbeats 1000000 in
theorem inline_tagged (w : World) (tb g : Nat) (loc : Int) (cs : Array Value) (hb : Bk w tb 48 cs) (h0 : cs[0]? = some (.iface 55 (ptr g))) : Calls Tryd.prog 9 #[.agg #[.int .i32 loc], ptr tb] w fun e w' => e = .returned (.agg #[.iface 30 (ptr tb), .int .i32 loc]) ∧ Below w.heap.size w w' := by
  have t0 : w.cell? ⟨tb, 0, none⟩ = some (.iface 55 (ptr g)) := (hb.cell 0).trans h0
  have ztb := hb.lt
  have ztb1 : tb < w.heap.size + 1 := by omega
  have ztb2 : tb < w.heap.size + 1 + 1 := by omega
  clear hb h0
  go_enter Tryd.func9, Tryd.ntmps9
  go_wp2_with fail
  have hbk : Bk ((w.alloc (.cells #[.int .i32 loc] 35)).alloc (.cells #[.iface 30 (ptr tb), .int .i32 loc] 37)) (w.heap.size + 1) 37 #[.iface 30 (ptr tb), .int .i32 loc] := Bk.new' _ _ _ _ (by simp)
  refine bodyPost_ret (results_cell_row rfl _ _ (w.heap.size + 1) 37 #[.iface 30 (ptr tb), .int .i32 loc] (0, 0) _ rfl hbk Tryd.underlying37 rfl (by kernel_rfl)) rfl ?_
  exact ⟨rfl, ((Below.refl _ _).alloc (Nat.le_refl _) _).alloc (by simp) _⟩

end Go.Proofs.YtlmjnlijoodbiaaDoor
