/-
  Lemmas shared by several laws of this seat; no statement of their own.
-/
import Derived.Test.YtgnlfkophffaoaeRows
import Derived.WalkKit
import Derived.ProofKit
import Derived.OpenShut
import Derived.Test.YtgnlfkophffaoaeSlW
import Derived.Test.YtgnlfkophffaoaeNul
import Derived.WalkLawsBesides
import Derived.WalkSpells
import Derived.Below
import Derived.Lib.Hide
import Derived.Outline
namespace Go.Proofs.Ytgnlfkophffaoae
open Go.ChangeShapes Go.WideShapes Go.ChangeAt Go.RowKit

set_option linter.unusedVariables false

set_option maxRecDepth 100000 in
theorem n_un_0 (op : Int) (ti : Bool) (p : Nat) (v : Value) (w : World) (hp : p < w.heap.size) (h0 : w.cell? ⟨p, 0, none⟩ = some (.iface 90 v)) (h2 : w.cell? ⟨p, 2, none⟩ = some (.int .u8 0)) (h3 : w.cell? ⟨p, 3, none⟩ = some (.bool ti)) : TellN w (.iface 93 (.pointer (some ⟨p, 0, none⟩))) (false, 0, true) := fun w1 hb => by
  have c0 : w1.cell? ⟨p, 0, none⟩ = some (.iface 90 v) := by rw [(bcell hb).1 _ _ hp]; exact h0
  have c2 : w1.cell? ⟨p, 2, none⟩ = some (.int .u8 0) := by rw [(bcell hb).1 _ _ hp]; exact h2
  have c3 : w1.cell? ⟨p, 3, none⟩ = some (.bool ti) := by rw [(bcell hb).1 _ _ hp]; exact h3
  clear h0 h2 h3 hb
  go_enter Try.func7, Try.ntmps7
  go_wp2_with fail
  go_ret3
  exact ⟨rfl, rfl⟩
set_option maxRecDepth 100000 in
theorem b_un_0 (op : Int) (ti : Bool) (p : Nat) (v : Value) (w : World) (hp : p < w.heap.size) (h0 : w.cell? ⟨p, 0, none⟩ = some (.iface 90 v)) (h2 : w.cell? ⟨p, 2, none⟩ = some (.int .u8 0)) (h3 : w.cell? ⟨p, 3, none⟩ = some (.bool ti)) : TellB w (.iface 93 (.pointer (some ⟨p, 0, none⟩))) (false, 0, false) := fun w1 hb => by
  have c0 : w1.cell? ⟨p, 0, none⟩ = some (.iface 90 v) := by rw [(bcell hb).1 _ _ hp]; exact h0
  have c2 : w1.cell? ⟨p, 2, none⟩ = some (.int .u8 0) := by rw [(bcell hb).1 _ _ hp]; exact h2
  have c3 : w1.cell? ⟨p, 3, none⟩ = some (.bool ti) := by rw [(bcell hb).1 _ _ hp]; exact h3
  clear h0 h2 h3 hb
  go_enter Try.func8, Try.ntmps8
  go_wp2_with fail
  go_ret3
  exact ⟨rfl, rfl⟩
set_option maxRecDepth 100000 in
theorem n_un_1 (op : Int) (ti : Bool) (p : Nat) (v : Value) (w : World) (hp : p < w.heap.size) (h0 : w.cell? ⟨p, 0, none⟩ = some (.iface 90 v)) (h2 : w.cell? ⟨p, 2, none⟩ = some (.int .u8 1)) (h3 : w.cell? ⟨p, 3, none⟩ = some (.bool ti)) : TellN w (.iface 93 (.pointer (some ⟨p, 0, none⟩))) (false, 0, true) := fun w1 hb => by
  have c0 : w1.cell? ⟨p, 0, none⟩ = some (.iface 90 v) := by rw [(bcell hb).1 _ _ hp]; exact h0
  have c2 : w1.cell? ⟨p, 2, none⟩ = some (.int .u8 1) := by rw [(bcell hb).1 _ _ hp]; exact h2
  have c3 : w1.cell? ⟨p, 3, none⟩ = some (.bool ti) := by rw [(bcell hb).1 _ _ hp]; exact h3
  clear h0 h2 h3 hb
  go_enter Try.func7, Try.ntmps7
  go_wp2_with fail
  go_ret3
  exact ⟨rfl, rfl⟩
set_option maxRecDepth 100000 in
theorem b_un_1 (op : Int) (ti : Bool) (p : Nat) (v : Value) (w : World) (hp : p < w.heap.size) (h0 : w.cell? ⟨p, 0, none⟩ = some (.iface 90 v)) (h2 : w.cell? ⟨p, 2, none⟩ = some (.int .u8 1)) (h3 : w.cell? ⟨p, 3, none⟩ = some (.bool ti)) : TellB w (.iface 93 (.pointer (some ⟨p, 0, none⟩))) (false, 0, false) := fun w1 hb => by
  have c0 : w1.cell? ⟨p, 0, none⟩ = some (.iface 90 v) := by rw [(bcell hb).1 _ _ hp]; exact h0
  have c2 : w1.cell? ⟨p, 2, none⟩ = some (.int .u8 1) := by rw [(bcell hb).1 _ _ hp]; exact h2
  have c3 : w1.cell? ⟨p, 3, none⟩ = some (.bool ti) := by rw [(bcell hb).1 _ _ hp]; exact h3
  clear h0 h2 h3 hb
  go_enter Try.func8, Try.ntmps8
  go_wp2_with fail
  go_ret3
  exact ⟨rfl, rfl⟩
set_option maxRecDepth 100000 in
theorem n_un_2 (op : Int) (ti : Bool) (p : Nat) (v : Value) (w : World) (hp : p < w.heap.size) (h0 : w.cell? ⟨p, 0, none⟩ = some (.iface 90 v)) (h2 : w.cell? ⟨p, 2, none⟩ = some (.int .u8 2)) (h3 : w.cell? ⟨p, 3, none⟩ = some (.bool ti)) : TellN w (.iface 93 (.pointer (some ⟨p, 0, none⟩))) (false, 0, true) := fun w1 hb => by
  have c0 : w1.cell? ⟨p, 0, none⟩ = some (.iface 90 v) := by rw [(bcell hb).1 _ _ hp]; exact h0
  have c2 : w1.cell? ⟨p, 2, none⟩ = some (.int .u8 2) := by rw [(bcell hb).1 _ _ hp]; exact h2
  have c3 : w1.cell? ⟨p, 3, none⟩ = some (.bool ti) := by rw [(bcell hb).1 _ _ hp]; exact h3
  clear h0 h2 h3 hb
  go_enter Try.func7, Try.ntmps7
  go_wp2_with fail
  go_ret3
  exact ⟨rfl, rfl⟩
set_option maxRecDepth 100000 in
theorem b_un_2 (op : Int) (ti : Bool) (p : Nat) (v : Value) (w : World) (hp : p < w.heap.size) (h0 : w.cell? ⟨p, 0, none⟩ = some (.iface 90 v)) (h2 : w.cell? ⟨p, 2, none⟩ = some (.int .u8 2)) (h3 : w.cell? ⟨p, 3, none⟩ = some (.bool ti)) : TellB w (.iface 93 (.pointer (some ⟨p, 0, none⟩))) (false, 0, false) := fun w1 hb => by
  have c0 : w1.cell? ⟨p, 0, none⟩ = some (.iface 90 v) := by rw [(bcell hb).1 _ _ hp]; exact h0
  have c2 : w1.cell? ⟨p, 2, none⟩ = some (.int .u8 2) := by rw [(bcell hb).1 _ _ hp]; exact h2
  have c3 : w1.cell? ⟨p, 3, none⟩ = some (.bool ti) := by rw [(bcell hb).1 _ _ hp]; exact h3
  clear h0 h2 h3 hb
  go_enter Try.func8, Try.ntmps8
  go_wp2_with fail
  go_ret3
  exact ⟨rfl, rfl⟩
set_option maxRecDepth 100000 in
theorem n_un_3 (op : Int) (ti : Bool) (p : Nat) (v : Value) (w : World) (hp : p < w.heap.size) (h0 : w.cell? ⟨p, 0, none⟩ = some (.iface 90 v)) (h2 : w.cell? ⟨p, 2, none⟩ = some (.int .u8 3)) (h3 : w.cell? ⟨p, 3, none⟩ = some (.bool ti)) : TellN w (.iface 93 (.pointer (some ⟨p, 0, none⟩))) (false, 0, true) := fun w1 hb => by
  have c0 : w1.cell? ⟨p, 0, none⟩ = some (.iface 90 v) := by rw [(bcell hb).1 _ _ hp]; exact h0
  have c2 : w1.cell? ⟨p, 2, none⟩ = some (.int .u8 3) := by rw [(bcell hb).1 _ _ hp]; exact h2
  have c3 : w1.cell? ⟨p, 3, none⟩ = some (.bool ti) := by rw [(bcell hb).1 _ _ hp]; exact h3
  clear h0 h2 h3 hb
  go_enter Try.func7, Try.ntmps7
  go_wp2_with fail
  go_ret3
  exact ⟨rfl, rfl⟩
set_option maxRecDepth 100000 in
theorem b_un_3 (op : Int) (ti : Bool) (p : Nat) (v : Value) (w : World) (hp : p < w.heap.size) (h0 : w.cell? ⟨p, 0, none⟩ = some (.iface 90 v)) (h2 : w.cell? ⟨p, 2, none⟩ = some (.int .u8 3)) (h3 : w.cell? ⟨p, 3, none⟩ = some (.bool ti)) : TellB w (.iface 93 (.pointer (some ⟨p, 0, none⟩))) (false, 0, false) := fun w1 hb => by
  have c0 : w1.cell? ⟨p, 0, none⟩ = some (.iface 90 v) := by rw [(bcell hb).1 _ _ hp]; exact h0
  have c2 : w1.cell? ⟨p, 2, none⟩ = some (.int .u8 3) := by rw [(bcell hb).1 _ _ hp]; exact h2
  have c3 : w1.cell? ⟨p, 3, none⟩ = some (.bool ti) := by rw [(bcell hb).1 _ _ hp]; exact h3
  clear h0 h2 h3 hb
  go_enter Try.func8, Try.ntmps8
  go_wp2_with fail
  refine (b_EIdentifier v w1 w1 (Below.refl _ _)).mono ?_
  rintro e w2 ⟨rfl, rfl⟩
  go_wp2_with fail
  go_ret3
  exact ⟨rfl, rfl⟩
set_option maxRecDepth 100000 in
theorem n_un_4 (op : Int) (ti : Bool) (p : Nat) (v : Value) (w : World) (hp : p < w.heap.size) (h0 : w.cell? ⟨p, 0, none⟩ = some (.iface 90 v)) (h2 : w.cell? ⟨p, 2, none⟩ = some (.int .u8 4)) (h3 : w.cell? ⟨p, 3, none⟩ = some (.bool ti)) : TellN w (.iface 93 (.pointer (some ⟨p, 0, none⟩))) (true, 0, true) := fun w1 hb => by
  have c0 : w1.cell? ⟨p, 0, none⟩ = some (.iface 90 v) := by rw [(bcell hb).1 _ _ hp]; exact h0
  have c2 : w1.cell? ⟨p, 2, none⟩ = some (.int .u8 4) := by rw [(bcell hb).1 _ _ hp]; exact h2
  have c3 : w1.cell? ⟨p, 3, none⟩ = some (.bool ti) := by rw [(bcell hb).1 _ _ hp]; exact h3
  clear h0 h2 h3 hb
  go_enter Try.func7, Try.ntmps7
  go_wp2_with fail
  go_ret3
  exact ⟨rfl, rfl⟩
set_option maxRecDepth 100000 in
theorem b_un_4 (op : Int) (ti : Bool) (p : Nat) (v : Value) (w : World) (hp : p < w.heap.size) (h0 : w.cell? ⟨p, 0, none⟩ = some (.iface 90 v)) (h2 : w.cell? ⟨p, 2, none⟩ = some (.int .u8 4)) (h3 : w.cell? ⟨p, 3, none⟩ = some (.bool ti)) : TellB w (.iface 93 (.pointer (some ⟨p, 0, none⟩))) (false, 0, true) := fun w1 hb => by
  have c0 : w1.cell? ⟨p, 0, none⟩ = some (.iface 90 v) := by rw [(bcell hb).1 _ _ hp]; exact h0
  have c2 : w1.cell? ⟨p, 2, none⟩ = some (.int .u8 4) := by rw [(bcell hb).1 _ _ hp]; exact h2
  have c3 : w1.cell? ⟨p, 3, none⟩ = some (.bool ti) := by rw [(bcell hb).1 _ _ hp]; exact h3
  clear h0 h2 h3 hb
  go_enter Try.func8, Try.ntmps8
  go_wp2_with fail
  go_ret3
  exact ⟨rfl, rfl⟩
set_option maxRecDepth 100000 in
theorem n_un_5 (op : Int) (ti : Bool) (p : Nat) (v : Value) (w : World) (hp : p < w.heap.size) (h0 : w.cell? ⟨p, 0, none⟩ = some (.iface 90 v)) (h2 : w.cell? ⟨p, 2, none⟩ = some (.int .u8 5)) (h3 : w.cell? ⟨p, 3, none⟩ = some (.bool ti)) : TellN w (.iface 93 (.pointer (some ⟨p, 0, none⟩))) (false, if ti = true then 1 else 0, true) := fun w1 hb => by
  have c0 : w1.cell? ⟨p, 0, none⟩ = some (.iface 90 v) := by rw [(bcell hb).1 _ _ hp]; exact h0
  have c2 : w1.cell? ⟨p, 2, none⟩ = some (.int .u8 5) := by rw [(bcell hb).1 _ _ hp]; exact h2
  have c3 : w1.cell? ⟨p, 3, none⟩ = some (.bool ti) := by rw [(bcell hb).1 _ _ hp]; exact h3
  clear h0 h2 h3 hb
  cases ti
  all_goals
    go_enter Try.func7, Try.ntmps7
    go_wp2_with fail
    go_ret3
    exact ⟨rfl, rfl⟩
set_option maxRecDepth 100000 in
theorem b_un_5 (op : Int) (ti : Bool) (p : Nat) (v : Value) (w : World) (hp : p < w.heap.size) (h0 : w.cell? ⟨p, 0, none⟩ = some (.iface 90 v)) (h2 : w.cell? ⟨p, 2, none⟩ = some (.int .u8 5)) (h3 : w.cell? ⟨p, 3, none⟩ = some (.bool ti)) : TellB w (.iface 93 (.pointer (some ⟨p, 0, none⟩))) (true, if ti = true then 1 else 0, true) := fun w1 hb => by
  have c0 : w1.cell? ⟨p, 0, none⟩ = some (.iface 90 v) := by rw [(bcell hb).1 _ _ hp]; exact h0
  have c2 : w1.cell? ⟨p, 2, none⟩ = some (.int .u8 5) := by rw [(bcell hb).1 _ _ hp]; exact h2
  have c3 : w1.cell? ⟨p, 3, none⟩ = some (.bool ti) := by rw [(bcell hb).1 _ _ hp]; exact h3
  clear h0 h2 h3 hb
  cases ti
  all_goals
    go_enter Try.func8, Try.ntmps8
    go_wp2_with fail
    go_ret3
    exact ⟨rfl, rfl⟩
set_option maxRecDepth 100000 in
theorem n_un_6 (op : Int) (ti : Bool) (p : Nat) (v : Value) (w : World) (hp : p < w.heap.size) (h0 : w.cell? ⟨p, 0, none⟩ = some (.iface 90 v)) (h2 : w.cell? ⟨p, 2, none⟩ = some (.int .u8 6)) (h3 : w.cell? ⟨p, 3, none⟩ = some (.bool ti)) : TellN w (.iface 93 (.pointer (some ⟨p, 0, none⟩))) (false, 0, true) := fun w1 hb => by
  have c0 : w1.cell? ⟨p, 0, none⟩ = some (.iface 90 v) := by rw [(bcell hb).1 _ _ hp]; exact h0
  have c2 : w1.cell? ⟨p, 2, none⟩ = some (.int .u8 6) := by rw [(bcell hb).1 _ _ hp]; exact h2
  have c3 : w1.cell? ⟨p, 3, none⟩ = some (.bool ti) := by rw [(bcell hb).1 _ _ hp]; exact h3
  clear h0 h2 h3 hb
  go_enter Try.func7, Try.ntmps7
  go_wp2_with fail
  go_ret3
  exact ⟨rfl, rfl⟩
set_option maxRecDepth 100000 in
theorem b_un_6 (op : Int) (ti : Bool) (p : Nat) (v : Value) (w : World) (hp : p < w.heap.size) (h0 : w.cell? ⟨p, 0, none⟩ = some (.iface 90 v)) (h2 : w.cell? ⟨p, 2, none⟩ = some (.int .u8 6)) (h3 : w.cell? ⟨p, 3, none⟩ = some (.bool ti)) : TellB w (.iface 93 (.pointer (some ⟨p, 0, none⟩))) (false, 0, false) := fun w1 hb => by
  have c0 : w1.cell? ⟨p, 0, none⟩ = some (.iface 90 v) := by rw [(bcell hb).1 _ _ hp]; exact h0
  have c2 : w1.cell? ⟨p, 2, none⟩ = some (.int .u8 6) := by rw [(bcell hb).1 _ _ hp]; exact h2
  have c3 : w1.cell? ⟨p, 3, none⟩ = some (.bool ti) := by rw [(bcell hb).1 _ _ hp]; exact h3
  clear h0 h2 h3 hb
  go_enter Try.func8, Try.ntmps8
  go_wp2_with fail
  go_ret3
  exact ⟨rfl, rfl⟩
set_option maxRecDepth 100000 in
theorem n_un_7 (op : Int) (ti : Bool) (p : Nat) (v : Value) (w : World) (hp : p < w.heap.size) (h0 : w.cell? ⟨p, 0, none⟩ = some (.iface 90 v)) (h2 : w.cell? ⟨p, 2, none⟩ = some (.int .u8 7)) (h3 : w.cell? ⟨p, 3, none⟩ = some (.bool ti)) : TellN w (.iface 93 (.pointer (some ⟨p, 0, none⟩))) (false, 0, true) := fun w1 hb => by
  have c0 : w1.cell? ⟨p, 0, none⟩ = some (.iface 90 v) := by rw [(bcell hb).1 _ _ hp]; exact h0
  have c2 : w1.cell? ⟨p, 2, none⟩ = some (.int .u8 7) := by rw [(bcell hb).1 _ _ hp]; exact h2
  have c3 : w1.cell? ⟨p, 3, none⟩ = some (.bool ti) := by rw [(bcell hb).1 _ _ hp]; exact h3
  clear h0 h2 h3 hb
  go_enter Try.func7, Try.ntmps7
  go_wp2_with fail
  go_ret3
  exact ⟨rfl, rfl⟩
set_option maxRecDepth 100000 in
theorem b_un_7 (op : Int) (ti : Bool) (p : Nat) (v : Value) (w : World) (hp : p < w.heap.size) (h0 : w.cell? ⟨p, 0, none⟩ = some (.iface 90 v)) (h2 : w.cell? ⟨p, 2, none⟩ = some (.int .u8 7)) (h3 : w.cell? ⟨p, 3, none⟩ = some (.bool ti)) : TellB w (.iface 93 (.pointer (some ⟨p, 0, none⟩))) (false, 0, false) := fun w1 hb => by
  have c0 : w1.cell? ⟨p, 0, none⟩ = some (.iface 90 v) := by rw [(bcell hb).1 _ _ hp]; exact h0
  have c2 : w1.cell? ⟨p, 2, none⟩ = some (.int .u8 7) := by rw [(bcell hb).1 _ _ hp]; exact h2
  have c3 : w1.cell? ⟨p, 3, none⟩ = some (.bool ti) := by rw [(bcell hb).1 _ _ hp]; exact h3
  clear h0 h2 h3 hb
  go_enter Try.func8, Try.ntmps8
  go_wp2_with fail
  go_ret3
  exact ⟨rfl, rfl⟩
set_option maxRecDepth 100000 in
theorem n_un_8 (op : Int) (ti : Bool) (p : Nat) (v : Value) (w : World) (hp : p < w.heap.size) (h0 : w.cell? ⟨p, 0, none⟩ = some (.iface 90 v)) (h2 : w.cell? ⟨p, 2, none⟩ = some (.int .u8 8)) (h3 : w.cell? ⟨p, 3, none⟩ = some (.bool ti)) : TellN w (.iface 93 (.pointer (some ⟨p, 0, none⟩))) (false, 0, true) := fun w1 hb => by
  have c0 : w1.cell? ⟨p, 0, none⟩ = some (.iface 90 v) := by rw [(bcell hb).1 _ _ hp]; exact h0
  have c2 : w1.cell? ⟨p, 2, none⟩ = some (.int .u8 8) := by rw [(bcell hb).1 _ _ hp]; exact h2
  have c3 : w1.cell? ⟨p, 3, none⟩ = some (.bool ti) := by rw [(bcell hb).1 _ _ hp]; exact h3
  clear h0 h2 h3 hb
  go_enter Try.func7, Try.ntmps7
  go_wp2_with fail
  go_ret3
  exact ⟨rfl, rfl⟩
set_option maxRecDepth 100000 in
theorem b_un_8 (op : Int) (ti : Bool) (p : Nat) (v : Value) (w : World) (hp : p < w.heap.size) (h0 : w.cell? ⟨p, 0, none⟩ = some (.iface 90 v)) (h2 : w.cell? ⟨p, 2, none⟩ = some (.int .u8 8)) (h3 : w.cell? ⟨p, 3, none⟩ = some (.bool ti)) : TellB w (.iface 93 (.pointer (some ⟨p, 0, none⟩))) (false, 0, false) := fun w1 hb => by
  have c0 : w1.cell? ⟨p, 0, none⟩ = some (.iface 90 v) := by rw [(bcell hb).1 _ _ hp]; exact h0
  have c2 : w1.cell? ⟨p, 2, none⟩ = some (.int .u8 8) := by rw [(bcell hb).1 _ _ hp]; exact h2
  have c3 : w1.cell? ⟨p, 3, none⟩ = some (.bool ti) := by rw [(bcell hb).1 _ _ hp]; exact h3
  clear h0 h2 h3 hb
  go_enter Try.func8, Try.ntmps8
  go_wp2_with fail
  go_ret3
  exact ⟨rfl, rfl⟩
set_option maxRecDepth 100000 in
theorem n_un_9 (op : Int) (ti : Bool) (p : Nat) (v : Value) (w : World) (hp : p < w.heap.size) (h0 : w.cell? ⟨p, 0, none⟩ = some (.iface 90 v)) (h2 : w.cell? ⟨p, 2, none⟩ = some (.int .u8 9)) (h3 : w.cell? ⟨p, 3, none⟩ = some (.bool ti)) : TellN w (.iface 93 (.pointer (some ⟨p, 0, none⟩))) (false, 0, true) := fun w1 hb => by
  have c0 : w1.cell? ⟨p, 0, none⟩ = some (.iface 90 v) := by rw [(bcell hb).1 _ _ hp]; exact h0
  have c2 : w1.cell? ⟨p, 2, none⟩ = some (.int .u8 9) := by rw [(bcell hb).1 _ _ hp]; exact h2
  have c3 : w1.cell? ⟨p, 3, none⟩ = some (.bool ti) := by rw [(bcell hb).1 _ _ hp]; exact h3
  clear h0 h2 h3 hb
  go_enter Try.func7, Try.ntmps7
  go_wp2_with fail
  go_ret3
  exact ⟨rfl, rfl⟩
set_option maxRecDepth 100000 in
theorem b_un_9 (op : Int) (ti : Bool) (p : Nat) (v : Value) (w : World) (hp : p < w.heap.size) (h0 : w.cell? ⟨p, 0, none⟩ = some (.iface 90 v)) (h2 : w.cell? ⟨p, 2, none⟩ = some (.int .u8 9)) (h3 : w.cell? ⟨p, 3, none⟩ = some (.bool ti)) : TellB w (.iface 93 (.pointer (some ⟨p, 0, none⟩))) (false, 0, false) := fun w1 hb => by
  have c0 : w1.cell? ⟨p, 0, none⟩ = some (.iface 90 v) := by rw [(bcell hb).1 _ _ hp]; exact h0
  have c2 : w1.cell? ⟨p, 2, none⟩ = some (.int .u8 9) := by rw [(bcell hb).1 _ _ hp]; exact h2
  have c3 : w1.cell? ⟨p, 3, none⟩ = some (.bool ti) := by rw [(bcell hb).1 _ _ hp]; exact h3
  clear h0 h2 h3 hb
  go_enter Try.func8, Try.ntmps8
  go_wp2_with fail
  go_ret3
  exact ⟨rfl, rfl⟩
set_option maxRecDepth 100000 in
theorem n_un_10 (op : Int) (ti : Bool) (p : Nat) (v : Value) (w : World) (hp : p < w.heap.size) (h0 : w.cell? ⟨p, 0, none⟩ = some (.iface 90 v)) (h2 : w.cell? ⟨p, 2, none⟩ = some (.int .u8 10)) (h3 : w.cell? ⟨p, 3, none⟩ = some (.bool ti)) : TellN w (.iface 93 (.pointer (some ⟨p, 0, none⟩))) (false, 0, true) := fun w1 hb => by
  have c0 : w1.cell? ⟨p, 0, none⟩ = some (.iface 90 v) := by rw [(bcell hb).1 _ _ hp]; exact h0
  have c2 : w1.cell? ⟨p, 2, none⟩ = some (.int .u8 10) := by rw [(bcell hb).1 _ _ hp]; exact h2
  have c3 : w1.cell? ⟨p, 3, none⟩ = some (.bool ti) := by rw [(bcell hb).1 _ _ hp]; exact h3
  clear h0 h2 h3 hb
  go_enter Try.func7, Try.ntmps7
  go_wp2_with fail
  go_ret3
  exact ⟨rfl, rfl⟩
set_option maxRecDepth 100000 in
theorem b_un_10 (op : Int) (ti : Bool) (p : Nat) (v : Value) (w : World) (hp : p < w.heap.size) (h0 : w.cell? ⟨p, 0, none⟩ = some (.iface 90 v)) (h2 : w.cell? ⟨p, 2, none⟩ = some (.int .u8 10)) (h3 : w.cell? ⟨p, 3, none⟩ = some (.bool ti)) : TellB w (.iface 93 (.pointer (some ⟨p, 0, none⟩))) (false, 0, false) := fun w1 hb => by
  have c0 : w1.cell? ⟨p, 0, none⟩ = some (.iface 90 v) := by rw [(bcell hb).1 _ _ hp]; exact h0
  have c2 : w1.cell? ⟨p, 2, none⟩ = some (.int .u8 10) := by rw [(bcell hb).1 _ _ hp]; exact h2
  have c3 : w1.cell? ⟨p, 3, none⟩ = some (.bool ti) := by rw [(bcell hb).1 _ _ hp]; exact h3
  clear h0 h2 h3 hb
  go_enter Try.func8, Try.ntmps8
  go_wp2_with fail
  go_ret3
  exact ⟨rfl, rfl⟩
set_option maxRecDepth 100000 in
theorem n_un_x (op : Int) (ti : Bool) (p : Nat) (v : Value) (w : World) (ho : 11 ≤ op) (hp : p < w.heap.size) (h0 : w.cell? ⟨p, 0, none⟩ = some (.iface 90 v)) (h2 : w.cell? ⟨p, 2, none⟩ = some (.int .u8 op)) (h3 : w.cell? ⟨p, 3, none⟩ = some (.bool ti)) : TellN w (.iface 93 (.pointer (some ⟨p, 0, none⟩))) (false, 1, false) := fun w1 hb => by
  have c0 : w1.cell? ⟨p, 0, none⟩ = some (.iface 90 v) := by rw [(bcell hb).1 _ _ hp]; exact h0
  have c2 : w1.cell? ⟨p, 2, none⟩ = some (.int .u8 op) := by rw [(bcell hb).1 _ _ hp]; exact h2
  have c3 : w1.cell? ⟨p, 3, none⟩ = some (.bool ti) := by rw [(bcell hb).1 _ _ hp]; exact h3
  have q0 : (op == 0) = false := by simp; omega
  have q1 : (op == 1) = false := by simp; omega
  have q2 : (op == 2) = false := by simp; omega
  have q3 : (op == 3) = false := by simp; omega
  have q4 : (op == 4) = false := by simp; omega
  have q5 : (op == 5) = false := by simp; omega
  have q6 : (op == 6) = false := by simp; omega
  have q7 : (op == 7) = false := by simp; omega
  have q8 : (op == 8) = false := by simp; omega
  have q9 : (op == 9) = false := by simp; omega
  have q10 : (op == 10) = false := by simp; omega
  clear h0 h2 h3 hb
  go_enter Try.func7, Try.ntmps7
  go_wp2_with fail
  go_ret3
  exact ⟨rfl, rfl⟩
set_option maxRecDepth 100000 in
theorem b_un_x (op : Int) (ti : Bool) (p : Nat) (v : Value) (w : World) (ho : 11 ≤ op) (hp : p < w.heap.size) (h0 : w.cell? ⟨p, 0, none⟩ = some (.iface 90 v)) (h2 : w.cell? ⟨p, 2, none⟩ = some (.int .u8 op)) (h3 : w.cell? ⟨p, 3, none⟩ = some (.bool ti)) : TellB w (.iface 93 (.pointer (some ⟨p, 0, none⟩))) (false, 0, false) := fun w1 hb => by
  have c0 : w1.cell? ⟨p, 0, none⟩ = some (.iface 90 v) := by rw [(bcell hb).1 _ _ hp]; exact h0
  have c2 : w1.cell? ⟨p, 2, none⟩ = some (.int .u8 op) := by rw [(bcell hb).1 _ _ hp]; exact h2
  have c3 : w1.cell? ⟨p, 3, none⟩ = some (.bool ti) := by rw [(bcell hb).1 _ _ hp]; exact h3
  have q3 : (op == 3) = false := by simp; omega
  have q4 : (op == 4) = false := by simp; omega
  have q5 : (op == 5) = false := by simp; omega
  clear h0 h2 h3 hb
  go_enter Try.func8, Try.ntmps8
  go_wp2_with fail
  go_ret3
  exact ⟨rfl, rfl⟩
theorem both_EUnary (op : Int) (ti : Bool) (p : Nat) (v : Value) (w : World) (ho : 0 ≤ op) (hp : p < w.heap.size) (h0 : w.cell? ⟨p, 0, none⟩ = some (.iface 90 v)) (h2 : w.cell? ⟨p, 2, none⟩ = some (.int .u8 op)) (h3 : w.cell? ⟨p, 3, none⟩ = some (.bool ti)) : Both w (.iface 93 (.pointer (some ⟨p, 0, none⟩))) := by
  have hc : op = 0 ∨ op = 1 ∨ op = 2 ∨ op = 3 ∨ op = 4 ∨ op = 5 ∨ op = 6 ∨ op = 7 ∨ op = 8 ∨ op = 9 ∨ op = 10 ∨ 11 ≤ op := by omega
  rcases hc with rfl | rfl | rfl | rfl | rfl | rfl | rfl | rfl | rfl | rfl | rfl | hx
  · exact ⟨_, _, by unfold Agree; cases ti <;> decide, n_un_0 0 ti p v w hp h0 h2 h3, b_un_0 0 ti p v w hp h0 h2 h3⟩
  · exact ⟨_, _, by unfold Agree; cases ti <;> decide, n_un_1 0 ti p v w hp h0 h2 h3, b_un_1 0 ti p v w hp h0 h2 h3⟩
  · exact ⟨_, _, by unfold Agree; cases ti <;> decide, n_un_2 0 ti p v w hp h0 h2 h3, b_un_2 0 ti p v w hp h0 h2 h3⟩
  · exact ⟨_, _, by unfold Agree; cases ti <;> decide, n_un_3 0 ti p v w hp h0 h2 h3, b_un_3 0 ti p v w hp h0 h2 h3⟩
  · exact ⟨_, _, by unfold Agree; cases ti <;> decide, n_un_4 0 ti p v w hp h0 h2 h3, b_un_4 0 ti p v w hp h0 h2 h3⟩
  · exact ⟨_, _, by unfold Agree; cases ti <;> decide, n_un_5 0 ti p v w hp h0 h2 h3, b_un_5 0 ti p v w hp h0 h2 h3⟩
  · exact ⟨_, _, by unfold Agree; cases ti <;> decide, n_un_6 0 ti p v w hp h0 h2 h3, b_un_6 0 ti p v w hp h0 h2 h3⟩
  · exact ⟨_, _, by unfold Agree; cases ti <;> decide, n_un_7 0 ti p v w hp h0 h2 h3, b_un_7 0 ti p v w hp h0 h2 h3⟩
  · exact ⟨_, _, by unfold Agree; cases ti <;> decide, n_un_8 0 ti p v w hp h0 h2 h3, b_un_8 0 ti p v w hp h0 h2 h3⟩
  · exact ⟨_, _, by unfold Agree; cases ti <;> decide, n_un_9 0 ti p v w hp h0 h2 h3, b_un_9 0 ti p v w hp h0 h2 h3⟩
  · exact ⟨_, _, by unfold Agree; cases ti <;> decide, n_un_10 0 ti p v w hp h0 h2 h3, b_un_10 0 ti p v w hp h0 h2 h3⟩
  · exact ⟨_, _, by unfold Agree; decide, n_un_x op ti p v w hx hp h0 h2 h3, b_un_x op ti p v w hx hp h0 h2 h3⟩
set_option maxRecDepth 100000 in
set_option maxHeartbeats 2000000 in
theorem n_bin_ok (op : Int) (p : Nat) (v : Value) (w : World) (ho : op = 11 ∨ op = 12 ∨ op = 13 ∨ op = 14 ∨ op = 15 ∨ op = 16 ∨ op = 17 ∨ op = 18 ∨ op = 19 ∨ op = 20 ∨ op = 21 ∨ op = 22 ∨ op = 23 ∨ op = 24 ∨ op = 25 ∨ op = 26 ∨ op = 27 ∨ op = 28 ∨ op = 29 ∨ op = 33 ∨ op = 34 ∨ op = 35 ∨ op = 38 ∨ op = 39 ∨ op = 40 ∨ op = 41 ∨ op = 42 ∨ op = 43 ∨ op = 44 ∨ op = 45 ∨ op = 46 ∨ op = 47 ∨ op = 48 ∨ op = 49) (hp : p < w.heap.size) (h0 : w.cell? ⟨p, 2, none⟩ = some (.iface 90 v)) (h2 : w.cell? ⟨p, 4, none⟩ = some (.int .u8 op)) : TellN w (.iface 97 (.pointer (some ⟨p, 0, none⟩))) (false, 0, true) := fun w1 hb => by
  have c0 : w1.cell? ⟨p, 2, none⟩ = some (.iface 90 v) := by rw [(bcell hb).1 _ _ hp]; exact h0
  have c2 : w1.cell? ⟨p, 4, none⟩ = some (.int .u8 op) := by rw [(bcell hb).1 _ _ hp]; exact h2
  clear h0 h2 hb
  rcases ho with rfl | rfl | rfl | rfl | rfl | rfl | rfl | rfl | rfl | rfl | rfl | rfl | rfl | rfl | rfl | rfl | rfl | rfl | rfl | rfl | rfl | rfl | rfl | rfl | rfl | rfl | rfl | rfl | rfl | rfl | rfl | rfl | rfl | rfl
  all_goals
    go_enter Try.func7, Try.ntmps7
    go_wp2_with fail
    go_ret3
    exact ⟨rfl, rfl⟩
set_option maxRecDepth 100000 in
set_option maxHeartbeats 2000000 in
theorem n_bin_no (op : Int) (p : Nat) (v : Value) (w : World) (ho : ¬ (op = 11 ∨ op = 12 ∨ op = 13 ∨ op = 14 ∨ op = 15 ∨ op = 16 ∨ op = 17 ∨ op = 18 ∨ op = 19 ∨ op = 20 ∨ op = 21 ∨ op = 22 ∨ op = 23 ∨ op = 24 ∨ op = 25 ∨ op = 26 ∨ op = 27 ∨ op = 28 ∨ op = 29 ∨ op = 33 ∨ op = 34 ∨ op = 35 ∨ op = 38 ∨ op = 39 ∨ op = 40 ∨ op = 41 ∨ op = 42 ∨ op = 43 ∨ op = 44 ∨ op = 45 ∨ op = 46 ∨ op = 47 ∨ op = 48 ∨ op = 49)) (hc : op ≠ 36) (hp : p < w.heap.size) (h0 : w.cell? ⟨p, 2, none⟩ = some (.iface 90 v)) (h2 : w.cell? ⟨p, 4, none⟩ = some (.int .u8 op)) : TellN w (.iface 97 (.pointer (some ⟨p, 0, none⟩))) (false, 1, false) := fun w1 hb => by
  have c0 : w1.cell? ⟨p, 2, none⟩ = some (.iface 90 v) := by rw [(bcell hb).1 _ _ hp]; exact h0
  have c2 : w1.cell? ⟨p, 4, none⟩ = some (.int .u8 op) := by rw [(bcell hb).1 _ _ hp]; exact h2
  clear h0 h2 hb
  have q11 : (op == 11) = false := by simp; omega
  have q12 : (op == 12) = false := by simp; omega
  have q13 : (op == 13) = false := by simp; omega
  have q14 : (op == 14) = false := by simp; omega
  have q15 : (op == 15) = false := by simp; omega
  have q16 : (op == 16) = false := by simp; omega
  have q17 : (op == 17) = false := by simp; omega
  have q18 : (op == 18) = false := by simp; omega
  have q19 : (op == 19) = false := by simp; omega
  have q20 : (op == 20) = false := by simp; omega
  have q21 : (op == 21) = false := by simp; omega
  have q22 : (op == 22) = false := by simp; omega
  have q23 : (op == 23) = false := by simp; omega
  have q24 : (op == 24) = false := by simp; omega
  have q25 : (op == 25) = false := by simp; omega
  have q26 : (op == 26) = false := by simp; omega
  have q27 : (op == 27) = false := by simp; omega
  have q28 : (op == 28) = false := by simp; omega
  have q29 : (op == 29) = false := by simp; omega
  have q33 : (op == 33) = false := by simp; omega
  have q34 : (op == 34) = false := by simp; omega
  have q35 : (op == 35) = false := by simp; omega
  have q38 : (op == 38) = false := by simp; omega
  have q39 : (op == 39) = false := by simp; omega
  have q40 : (op == 40) = false := by simp; omega
  have q41 : (op == 41) = false := by simp; omega
  have q42 : (op == 42) = false := by simp; omega
  have q43 : (op == 43) = false := by simp; omega
  have q44 : (op == 44) = false := by simp; omega
  have q45 : (op == 45) = false := by simp; omega
  have q46 : (op == 46) = false := by simp; omega
  have q47 : (op == 47) = false := by simp; omega
  have q48 : (op == 48) = false := by simp; omega
  have q49 : (op == 49) = false := by simp; omega
  have q36 : (op == 36) = false := by simp; omega
  clear ho hc
  go_enter Try.func7, Try.ntmps7
  go_wp2_with fail
  go_ret3
  exact ⟨rfl, rfl⟩
set_option maxRecDepth 100000 in
set_option maxHeartbeats 2000000 in
theorem b_bin_no (op : Int) (p : Nat) (v : Value) (w : World) (hc : op ≠ 36 ∧ op ≠ 31 ∧ op ≠ 32) (hp : p < w.heap.size) (h0 : w.cell? ⟨p, 2, none⟩ = some (.iface 90 v)) (h2 : w.cell? ⟨p, 4, none⟩ = some (.int .u8 op)) : TellB w (.iface 97 (.pointer (some ⟨p, 0, none⟩))) (false, 0, false) := fun w1 hb => by
  have c0 : w1.cell? ⟨p, 2, none⟩ = some (.iface 90 v) := by rw [(bcell hb).1 _ _ hp]; exact h0
  have c2 : w1.cell? ⟨p, 4, none⟩ = some (.int .u8 op) := by rw [(bcell hb).1 _ _ hp]; exact h2
  clear h0 h2 hb
  have q36 : (op == 36) = false := by simp; omega
  have q31 : (op == 31) = false := by simp; omega
  have q32 : (op == 32) = false := by simp; omega
  clear hc
  go_enter Try.func8, Try.ntmps8
  go_wp2_with fail
  go_ret3
  exact ⟨rfl, rfl⟩
set_option maxRecDepth 100000 in
set_option maxHeartbeats 2000000 in
theorem b_bin_31 (op : Int) (p : Nat) (v : Value) (w : World) (hp : p < w.heap.size) (h0 : w.cell? ⟨p, 2, none⟩ = some (.iface 90 v)) (h2 : w.cell? ⟨p, 4, none⟩ = some (.int .u8 31)) : TellB w (.iface 97 (.pointer (some ⟨p, 0, none⟩))) (false, 0, false) := fun w1 hb => by
  have c0 : w1.cell? ⟨p, 2, none⟩ = some (.iface 90 v) := by rw [(bcell hb).1 _ _ hp]; exact h0
  have c2 : w1.cell? ⟨p, 4, none⟩ = some (.int .u8 31) := by rw [(bcell hb).1 _ _ hp]; exact h2
  clear h0 h2 hb
  go_enter Try.func8, Try.ntmps8
  go_wp2_with fail
  refine (b_EIdentifier v w1 w1 (Below.refl _ _)).mono ?_
  rintro e w2 ⟨rfl, rfl⟩
  go_wp2_with fail
  go_ret3
  exact ⟨rfl, rfl⟩
set_option maxRecDepth 100000 in
set_option maxHeartbeats 2000000 in
theorem b_bin_32 (op : Int) (p : Nat) (v : Value) (w : World) (hp : p < w.heap.size) (h0 : w.cell? ⟨p, 2, none⟩ = some (.iface 90 v)) (h2 : w.cell? ⟨p, 4, none⟩ = some (.int .u8 32)) : TellB w (.iface 97 (.pointer (some ⟨p, 0, none⟩))) (false, 0, false) := fun w1 hb => by
  have c0 : w1.cell? ⟨p, 2, none⟩ = some (.iface 90 v) := by rw [(bcell hb).1 _ _ hp]; exact h0
  have c2 : w1.cell? ⟨p, 4, none⟩ = some (.int .u8 32) := by rw [(bcell hb).1 _ _ hp]; exact h2
  clear h0 h2 hb
  go_enter Try.func8, Try.ntmps8
  go_wp2_with fail
  refine (b_EIdentifier v w1 w1 (Below.refl _ _)).mono ?_
  rintro e w2 ⟨rfl, rfl⟩
  go_wp2_with fail
  go_ret3
  exact ⟨rfl, rfl⟩
theorem both_EBinary (op : Int) (p : Nat) (v : Value) (w : World) (hp : p < w.heap.size) (h0 : w.cell? ⟨p, 2, none⟩ = some (.iface 90 v)) (h2 : w.cell? ⟨p, 4, none⟩ = some (.int .u8 op)) : Both w (.iface 97 (.pointer (some ⟨p, 0, none⟩))) := by
  by_cases hc : op = 36
  · subst hc; exact both_comma p _ w hp h0 h2 (both_EIdentifier v w)
  have hb : TellB w (.iface 97 (.pointer (some ⟨p, 0, none⟩))) (false, 0, false) := by
    by_cases h31 : op = 31
    · subst h31; exact b_bin_31 0 p v w hp h0 h2
    by_cases h32 : op = 32
    · subst h32; exact b_bin_32 0 p v w hp h0 h2
    exact b_bin_no op p v w ⟨hc, h31, h32⟩ hp h0 h2
  by_cases ho : op = 11 ∨ op = 12 ∨ op = 13 ∨ op = 14 ∨ op = 15 ∨ op = 16 ∨ op = 17 ∨ op = 18 ∨ op = 19 ∨ op = 20 ∨ op = 21 ∨ op = 22 ∨ op = 23 ∨ op = 24 ∨ op = 25 ∨ op = 26 ∨ op = 27 ∨ op = 28 ∨ op = 29 ∨ op = 33 ∨ op = 34 ∨ op = 35 ∨ op = 38 ∨ op = 39 ∨ op = 40 ∨ op = 41 ∨ op = 42 ∨ op = 43 ∨ op = 44 ∨ op = 45 ∨ op = 46 ∨ op = 47 ∨ op = 48 ∨ op = 49
  · exact ⟨_, _, by unfold Agree; decide, n_bin_ok op p v w ho hp h0 h2, hb⟩
  · exact ⟨_, _, by unfold Agree; decide, n_bin_no op p v w ho hc hp h0 h2, hb⟩

end Go.Proofs.Ytgnlfkophffaoae
