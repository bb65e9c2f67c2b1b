/-
  Lemmas shared by several laws of this seat; no statement of their own.
-/
import Derived.Test.YtdjiekejkjgamaaRows
import Derived.WalkKit
import Derived.ProofKit
import Derived.OpenShut
import Derived.Test.YtdjiekejkjgamaaSlW
import Derived.Test.YtdjiekejkjgamaaAcU
import Derived.Test.YtdjiekejkjgamaaAcR
import Derived.WalkLawsBesides
import Derived.WalkSpells
import Derived.Below
import Derived.Lib.Hide
import Derived.Outline
import Derived.LoopTactic
import Derived.Deep.QuietTactic
import Derived.BigQuiet
namespace Go.Proofs.Ytdjiekejkjgamaa
open Go.ChangeShapes Go.WideShapes Go.ChangeAt Go.RowKit

set_option linter.unusedVariables false

structure DotAt (w : World) (p : Nat) (d : Value) (nm : ByteArray) : Prop where
  c0 : w.cell? ⟨p, 0, none⟩ = some d
  c2 : w.cell? ⟨p, 2, none⟩ = some (.string nm)
  c4 : w.cell? ⟨p, 4, none⟩ = some (.int .u8 0)
  c5 : w.cell? ⟨p, 5, none⟩ = some (.bool false)
  c6 : w.cell? ⟨p, 6, none⟩ = some (.bool false)
  c7 : w.cell? ⟨p, 7, none⟩ = some (.bool false)
structure IdxAt (w : World) (p : Nat) (d i : Value) : Prop where
  c0 : w.cell? ⟨p, 0, none⟩ = some d
  c2 : w.cell? ⟨p, 2, none⟩ = some i
  c5 : w.cell? ⟨p, 5, none⟩ = some (.int .u8 0)
  c6 : w.cell? ⟨p, 6, none⟩ = some (.bool false)
  c7 : w.cell? ⟨p, 7, none⟩ = some (.bool false)
  c8 : w.cell? ⟨p, 8, none⟩ = some (.bool false)
structure CallAt (w : World) (p : Nat) (d : Value) : Prop where
  c0 : w.cell? ⟨p, 0, none⟩ = some d
  c2 : w.cell? ⟨p, 2, none⟩ = some (.slice none 0 0)
  c4 : w.cell? ⟨p, 4, none⟩ = some (.int .u8 0)
  c5 : w.cell? ⟨p, 5, none⟩ = some (.int .u8 0)
  c7 : w.cell? ⟨p, 7, none⟩ = some (.bool false)
theorem dot_flags (p q : Nat) (d e : Value) (a b : ByteArray) (w : World) (hp : DotAt w p d a) (hq : DotAt w q e b) : Calls Try.prog 14 #[.pointer (some ⟨p, 0, none⟩), .pointer (some ⟨q, 0, none⟩)] w (Quiet (.bool true) w) := by
  obtain ⟨p0, p2, p4, p5, p6, p7⟩ := hp
  obtain ⟨q0, q2, q4, q5, q6, q7⟩ := hq
  go_enter Try.func14, Try.ntmps14
  go_wp2_with fail
  go_quiet (fail)
  go_wp2_with fail
  go_ret
  exact ⟨rfl, _, rfl⟩
theorem idx_flags (p q : Nat) (d e i j : Value) (w : World) (hp : IdxAt w p d i) (hq : IdxAt w q e j) : Calls Try.prog 15 #[.pointer (some ⟨p, 0, none⟩), .pointer (some ⟨q, 0, none⟩)] w (Quiet (.bool true) w) := by
  obtain ⟨p0, p2, p4, p5, p6, p7⟩ := hp
  obtain ⟨q0, q2, q4, q5, q6, q7⟩ := hq
  go_enter Try.func15, Try.ntmps15
  go_wp2_with fail
  go_quiet (fail)
  go_wp2_with fail
  go_ret
  exact ⟨rfl, _, rfl⟩
theorem call_flags (p q : Nat) (d e : Value) (w : World) (hp : CallAt w p d) (hq : CallAt w q e) : Calls Try.prog 16 #[.pointer (some ⟨p, 0, none⟩), .pointer (some ⟨q, 0, none⟩)] w (Quiet (.bool true) w) := by
  obtain ⟨p0, p2, p4, p5, p7⟩ := hp
  obtain ⟨q0, q2, q4, q5, q7⟩ := hq
  go_enter Try.func16, Try.ntmps16
  go_wp2_with fail
  go_quiet (fail)
  go_wp2_with fail
  go_ret
  exact ⟨rfl, _, rfl⟩
set_option maxRecDepth 100000 in
set_option maxHeartbeats 1000000 in
theorem vl_dot (p q : Nat) (d e : Value) (a b : ByteArray) (r : Bool) (w : World) (hp : DotAt w p d a) (hq : DotAt w q e b) (kt : ∀ x, Calls Try.prog 10 #[d, e] (w.drewN x) (Quiet (.bool r) (w.drewN x))) :
    Calls Try.prog 10 #[.iface 46 (.pointer (some ⟨p, 0, none⟩)), .iface 46 (.pointer (some ⟨q, 0, none⟩))] w (Quiet (.bool ((a.toList == b.toList) && r)) w) := by
  have KF := Lib.hid (show ∀ x, Calls Try.prog 14 #[.pointer (some ⟨p, 0, none⟩), .pointer (some ⟨q, 0, none⟩)] (w.drewN x) (Quiet (.bool true) (w.drewN x)) from fun x => dot_flags p q d e a b (w.drewN x) ⟨hp.c0, hp.c2, hp.c4, hp.c5, hp.c6, hp.c7⟩ ⟨hq.c0, hq.c2, hq.c4, hq.c5, hq.c6, hq.c7⟩)
  have KT := Lib.hid kt
  obtain ⟨p0, p2, p4, p5, p6, p7⟩ := hp
  obtain ⟨q0, q2, q4, q5, q6, q7⟩ := hq
  clear kt p4 p5 p6 p7 q4 q5 q6 q7
  cases t : (a.toList == b.toList) <;> cases r
  · go_enter Try.func10, Try.ntmps10
    go_wp2_with fail
    go_quiet ((first | (go_at_call 14; exact Calls.quiet_of (KF.out _)) | (go_at_call 10; exact Calls.quiet_of (KT.out _))))
    go_wp2_with fail
    refine (chk_dot _ _ _ _ (by decide)).mono ?_
    rintro e w1 ⟨rfl, rfl⟩
    go_wp2_with fail
    go_ret
    exact ⟨rfl, _, rfl⟩
  · go_enter Try.func10, Try.ntmps10
    go_wp2_with fail
    go_quiet ((first | (go_at_call 14; exact Calls.quiet_of (KF.out _)) | (go_at_call 10; exact Calls.quiet_of (KT.out _))))
    go_wp2_with fail
    refine (chk_dot _ _ _ _ (by decide)).mono ?_
    rintro e w1 ⟨rfl, rfl⟩
    go_wp2_with fail
    go_ret
    exact ⟨rfl, _, rfl⟩
  · go_enter Try.func10, Try.ntmps10
    go_wp2_with fail
    go_quiet ((first | (go_at_call 14; exact Calls.quiet_of (KF.out _)) | (go_at_call 10; exact Calls.quiet_of (KT.out _))))
    go_wp2_with fail
    refine (chk_dot _ _ _ _ (by decide)).mono ?_
    rintro e w1 ⟨rfl, rfl⟩
    go_wp2_with fail
    go_ret
    exact ⟨rfl, _, rfl⟩
  · go_enter Try.func10, Try.ntmps10
    go_wp2_with fail
    go_quiet ((first | (go_at_call 14; exact Calls.quiet_of (KF.out _)) | (go_at_call 10; exact Calls.quiet_of (KT.out _))))
    go_wp2_with fail
    go_ret
    exact ⟨rfl, _, rfl⟩
set_option maxRecDepth 100000 in
set_option maxHeartbeats 1000000 in
theorem vl_idx (p q i j : Nat) (d e : Value) (r s : Bool) (w : World) (hp : IdxAt w p d (.iface 54 (.pointer (some ⟨i, 0, none⟩)))) (hq : IdxAt w q e (.iface 54 (.pointer (some ⟨j, 0, none⟩)))) (kt : ∀ x, Calls Try.prog 10 #[d, e] (w.drewN x) (Quiet (.bool r) (w.drewN x))) (ki : ∀ x, Calls Try.prog 10 #[.iface 54 (.pointer (some ⟨i, 0, none⟩)), .iface 54 (.pointer (some ⟨j, 0, none⟩))] (w.drewN x) (Quiet (.bool s) (w.drewN x))) :
    Calls Try.prog 10 #[.iface 50 (.pointer (some ⟨p, 0, none⟩)), .iface 50 (.pointer (some ⟨q, 0, none⟩))] w (Quiet (.bool (s && r)) w) := by
  have KF := Lib.hid (show ∀ x, Calls Try.prog 15 #[.pointer (some ⟨p, 0, none⟩), .pointer (some ⟨q, 0, none⟩)] (w.drewN x) (Quiet (.bool true) (w.drewN x)) from fun x => idx_flags p q d e _ _ (w.drewN x) ⟨hp.c0, hp.c2, hp.c5, hp.c6, hp.c7, hp.c8⟩ ⟨hq.c0, hq.c2, hq.c5, hq.c6, hq.c7, hq.c8⟩)
  have KT := Lib.hid kt
  have KI := Lib.hid ki
  obtain ⟨p0, p2, p4, p5, p6, p7⟩ := hp
  obtain ⟨q0, q2, q4, q5, q6, q7⟩ := hq
  clear kt ki p4 p5 p6 p7 q4 q5 q6 q7
  cases s <;> cases r
  · go_enter Try.func10, Try.ntmps10
    go_wp2_with fail
    go_quiet ((first | (go_at_call 15; exact Calls.quiet_of (KF.out _)) | (go_at_call 10; (first | (with_reducible exact Calls.quiet_of (KT.out _)) | (with_reducible exact Calls.quiet_of (KI.out _))))))
    go_wp2_with fail
    refine (chk_idx _ _ _ _ (by decide)).mono ?_
    rintro e w1 ⟨rfl, rfl⟩
    go_wp2_with fail
    go_ret
    exact ⟨rfl, _, rfl⟩
  · go_enter Try.func10, Try.ntmps10
    go_wp2_with fail
    go_quiet ((first | (go_at_call 15; exact Calls.quiet_of (KF.out _)) | (go_at_call 10; (first | (with_reducible exact Calls.quiet_of (KT.out _)) | (with_reducible exact Calls.quiet_of (KI.out _))))))
    go_wp2_with fail
    refine (chk_idx _ _ _ _ (by decide)).mono ?_
    rintro e w1 ⟨rfl, rfl⟩
    go_wp2_with fail
    go_ret
    exact ⟨rfl, _, rfl⟩
  · go_enter Try.func10, Try.ntmps10
    go_wp2_with fail
    go_quiet ((first | (go_at_call 15; exact Calls.quiet_of (KF.out _)) | (go_at_call 10; (first | (with_reducible exact Calls.quiet_of (KT.out _)) | (with_reducible exact Calls.quiet_of (KI.out _))))))
    go_wp2_with fail
    refine (chk_idx _ _ _ _ (by decide)).mono ?_
    rintro e w1 ⟨rfl, rfl⟩
    go_wp2_with fail
    go_ret
    exact ⟨rfl, _, rfl⟩
  · go_enter Try.func10, Try.ntmps10
    go_wp2_with fail
    go_quiet ((first | (go_at_call 15; exact Calls.quiet_of (KF.out _)) | (go_at_call 10; (first | (with_reducible exact Calls.quiet_of (KT.out _)) | (with_reducible exact Calls.quiet_of (KI.out _))))))
    go_wp2_with fail
    go_ret
    exact ⟨rfl, _, rfl⟩
set_option maxRecDepth 100000 in
set_option maxHeartbeats 1000000 in
theorem vl_call (p q : Nat) (d e : Value) (r : Bool) (w : World) (hp : CallAt w p d) (hq : CallAt w q e) (kt : ∀ x, Calls Try.prog 10 #[d, e] (w.drewN x) (Quiet (.bool r) (w.drewN x))) :
    Calls Try.prog 10 #[.iface 51 (.pointer (some ⟨p, 0, none⟩)), .iface 51 (.pointer (some ⟨q, 0, none⟩))] w (Quiet (.bool r) w) := by
  have KF := Lib.hid (show ∀ x, Calls Try.prog 16 #[.pointer (some ⟨p, 0, none⟩), .pointer (some ⟨q, 0, none⟩)] (w.drewN x) (Quiet (.bool true) (w.drewN x)) from fun x => call_flags p q d e (w.drewN x) ⟨hp.c0, hp.c2, hp.c4, hp.c5, hp.c7⟩ ⟨hq.c0, hq.c2, hq.c4, hq.c5, hq.c7⟩)
  have KT := Lib.hid kt
  obtain ⟨p0, p2, p4, p5, p7⟩ := hp
  obtain ⟨q0, q2, q4, q5, q7⟩ := hq
  clear kt p4 p5 p7 q4 q5 q7
  cases r
  · go_enter Try.func10, Try.ntmps10
    go_wp2_with fail
    go_quiet ((first | (go_at_call 16; exact Calls.quiet_of (KF.out _)) | (go_at_call 10; exact Calls.quiet_of (KT.out _))))
    go_wp2_with fail
    refine (chk_call _ _ _ _ (by decide)).mono ?_
    rintro e w1 ⟨rfl, rfl⟩
    go_wp2_with fail
    go_ret
    exact ⟨rfl, _, rfl⟩
  · go_enter Try.func10, Try.ntmps10
    go_wp2_with fail
    go_quiet ((first | (go_at_call 16; exact Calls.quiet_of (KF.out _)) | (go_at_call 10; exact Calls.quiet_of (KT.out _))))
    go_wp2_with fail
    refine wp_loop_rounds 1 ?_
    rw [rounds_succ]
    go_wp2_with fail
    go_ret
    exact ⟨rfl, _, rfl⟩

end Go.Proofs.Ytdjiekejkjgamaa
