/-
  For every eight inputs the law FnEDotAndEIndexSameFlagsAgree returns true and leaves its arguments as they were; no condition.
  The frame of this text was written by the kit's program proof-skeleton.mjs for this statement; the walk and its lemmas are the prover's.
-/
import Derived.Test.YtajckegnkbfpaahRows
import Derived.WalkKit
import Derived.ProofKit
import Derived.OpenShut
import Derived.Laws.BitsAllLaws
import Derived.Deep.QuietTactic
import Derived.BigQuiet
import Derived.Lib.Hide
namespace Go.Proofs.Ytajckegnkbfpaah.fnEDotAndEIndexSameFlagsAgree
open Go.ChangeShapes Go.WideShapes Go.ChangeAt Go.RowKit
set_option linter.unusedVariables false      -- a walk need not use every 'w<i>' (that an integer argument fits its kind)

theorem own : ownKnob Try.prog.godebug = none := by kernel_rfl

theorem ret_true {b : Bool} (h : b = true) : Ending.returned (.bool b) = .returned (.bool true) := by rw [h]
theorem ret_int {k : IntKind} {a b : Int} (h : a = b) : Ending.returned (.int k a) = .returned (.int k b) := by rw [h]
set_option maxHeartbeats 1000000 in
theorem same_any (p q : Nat) (a0 b0 : Int) (a1 a2 a3 b1 b2 b3 : Bool) (w : World)
    (h0 : w.cell? ⟨p, 5, none⟩ = some (.int .u8 a0)) (h1 : w.cell? ⟨p, 6, none⟩ = some (.bool a1)) (h2 : w.cell? ⟨p, 7, none⟩ = some (.bool a2)) (h3 : w.cell? ⟨p, 8, none⟩ = some (.bool a3))
    (g0 : w.cell? ⟨q, 5, none⟩ = some (.int .u8 b0)) (g1 : w.cell? ⟨q, 6, none⟩ = some (.bool b1)) (g2 : w.cell? ⟨q, 7, none⟩ = some (.bool b2)) (g3 : w.cell? ⟨q, 8, none⟩ = some (.bool b3)) :
    Calls Try.prog 7 #[.pointer (some ⟨p, 0, none⟩), .pointer (some ⟨q, 0, none⟩)] w fun e w' => e = .returned (.bool (a0 == b0 && a1 == b1 && a2 == b2 && a3 == b3)) ∧ ∃ n, w' = w.drewN n := by
  cases c0 : (a0 == b0) <;> cases c1 : (a1 == b1) <;> cases c2 : (a2 == b2) <;> cases c3 : (a3 == b3)
  all_goals
    go_enter Try.func7, Try.ntmps7
    go_wp2
    go_quiet (fail)
    go_wp2
    go_ret
    exact ⟨rfl, _, rfl⟩
set_option maxHeartbeats 1000000 in
theorem dot_any (p q : Nat) (a0 b0 : Int) (a1 a2 a3 b1 b2 b3 : Bool) (w : World)
    (h0 : w.cell? ⟨p, 4, none⟩ = some (.int .u8 a0)) (h1 : w.cell? ⟨p, 5, none⟩ = some (.bool a1)) (h2 : w.cell? ⟨p, 6, none⟩ = some (.bool a2)) (h3 : w.cell? ⟨p, 7, none⟩ = some (.bool a3))
    (g0 : w.cell? ⟨q, 4, none⟩ = some (.int .u8 b0)) (g1 : w.cell? ⟨q, 5, none⟩ = some (.bool b1)) (g2 : w.cell? ⟨q, 6, none⟩ = some (.bool b2)) (g3 : w.cell? ⟨q, 7, none⟩ = some (.bool b3)) :
    Calls Try.prog 6 #[.pointer (some ⟨p, 0, none⟩), .pointer (some ⟨q, 0, none⟩)] w fun e w' => e = .returned (.bool (a0 == b0 && a1 == b1 && a2 == b2 && a3 == b3)) ∧ ∃ n, w' = w.drewN n := by
  cases c0 : (a0 == b0) <;> cases c1 : (a1 == b1) <;> cases c2 : (a2 == b2) <;> cases c3 : (a3 == b3)
  all_goals
    go_enter Try.func6, Try.ntmps6
    go_wp2
    go_quiet (fail)
    go_wp2
    go_ret
    exact ⟨rfl, _, rfl⟩
theorem grown_drewN {w w' : World} (n : Nat) (h : Grown w w') : Grown w (w'.drewN n) := by
  induction n with
  | zero => exact h
  | succ n ih => exact ih.drew

set_option maxHeartbeats 1000000 in
theorem walk (a0 : Int) (a1 : Bool) (a2 : Bool) (a3 : Bool) (a4 : Int) (a5 : Bool) (a6 : Bool) (a7 : Bool) (w0 : (Lit.int .u8 a0).wf = true) (w4 : (Lit.int .u8 a4).wf = true) (w : World) :
    Calls Try.prog 3 #[.int .u8 a0, .bool a1, .bool a2, .bool a3, .int .u8 a4, .bool a5, .bool a6, .bool a7] w fun e w' => e = .returned (.bool true) ∧ Grown w w' := by
  clear w0 w4
  go_enter Try.func3, Try.ntmps3
  go_wp2_with (first | (go_at_call 6; refine (dot_any _ _ a0 a4 a1 a2 a3 a5 a6 a7 _ (by go_simp) (by go_simp) (by go_simp) (by go_simp) (by go_simp) (by go_simp) (by go_simp) (by go_simp)).mono ?_; rintro e w' ⟨rfl, n, rfl⟩) | (go_at_call 7; refine (same_any _ _ a0 a4 a1 a2 a3 a5 a6 a7 _ (by go_simp) (by go_simp) (by go_simp) (by go_simp) (by go_simp) (by go_simp) (by go_simp) (by go_simp)).mono ?_; rintro e w' ⟨rfl, n2, rfl⟩) | (go_at_call 5; go_in) | (go_at_call 4; go_in))
  go_ret
  exact ⟨ret_true (by simp), by repeat (first | exact Grown.refl _ | apply grown_drewN | apply Grown.drew | apply Grown.alloc)⟩

/-! ### THE ROW's STEP: WRITTEN OUT: LEAVE IT -/
set_option maxRecDepth 100000 in
theorem lifted (os : Os) (started : os.Started) (H : Type) (enc : TypeId × Value → H) :
    ReturnsInHanded {} Try.checked os 3 .any (Rows.fnEDotAndEIndexSameFlagsAgreeSpec.pre6 enc Try.prog Try.f3 Rows.fnEDotAndEIndexSameFlagsAgreeRow.domain false) (Rows.fnEDotAndEIndexSameFlagsAgreeSpec.post enc Try.prog Try.f3 false true false false) := by
  refine returnsInHanded_of_change (C := Try.checked) own started (by kernel_rfl) Try.func3
    (ChangeSpec.witness6 (enc := enc) (C := Try.checked) false ⟨#[], #[.int .u8 0, .bool false, .bool false, .bool false, .int .u8 0, .bool false, .bool false, .bool false], []⟩ 8 (by kernel_rfl) (by kernel_rfl) (by kernel_rfl) (by kernel_rfl)) ?_
  intro W base args ds gs before hval0 hW hcnd _
  have hval : ∀ (j : Nat) t v, Try.f3.params[j]? = some t → args[j]? = some v → Value.okWide Try.prog W .any base t v := hval0
  have hW' := hW
  obtain ⟨p, q, hA0, hV, rfl, hfz, hnd⟩ := hW
  have hA : DataW.TrodAll enc Try.prog W 0 (fun _ => true) true Try.f3.params.toList args.toList ds p := hA0
  rw [Try.params3] at hA hval
  obtain ⟨v0, vs0, d0, ds0, p0, q0, hargs, rfl, rfl, h0, r0⟩ := trodAll_cons hA
  obtain ⟨v1, vs1, d1, ds1, p1, q1, rfl, rfl, rfl, h1, r1⟩ := trodAll_cons r0
  obtain ⟨v2, vs2, d2, ds2, p2, q2, rfl, rfl, rfl, h2, r2⟩ := trodAll_cons r1
  obtain ⟨v3, vs3, d3, ds3, p3, q3, rfl, rfl, rfl, h3, r3⟩ := trodAll_cons r2
  obtain ⟨v4, vs4, d4, ds4, p4, q4, rfl, rfl, rfl, h4, r4⟩ := trodAll_cons r3
  obtain ⟨v5, vs5, d5, ds5, p5, q5, rfl, rfl, rfl, h5, r5⟩ := trodAll_cons r4
  obtain ⟨v6, vs6, d6, ds6, p6, q6, rfl, rfl, rfl, h6, r6⟩ := trodAll_cons r5
  obtain ⟨v7, vs7, d7, ds7, p7, q7, rfl, rfl, rfl, h7, r7⟩ := trodAll_cons r6
  obtain ⟨rfl, rfl, rfl⟩ := trodAll_nil r7
  obtain rfl : args = #[v0, v1, v2, v3, v4, v5, v6, v7] := by cases args; simp_all
  obtain ⟨rfl, rfl⟩ := trodVars_none hV
  obtain ⟨a0, rfl, rfl, rfl, w0⟩ := open_int Try.underlying5 (hval 0 5 v0 rfl rfl) h0
  obtain ⟨a1, rfl, rfl, rfl⟩ := open_bool Try.underlying4 (hval 1 4 v1 rfl rfl) h1
  obtain ⟨a2, rfl, rfl, rfl⟩ := open_bool Try.underlying4 (hval 2 4 v2 rfl rfl) h2
  obtain ⟨a3, rfl, rfl, rfl⟩ := open_bool Try.underlying4 (hval 3 4 v3 rfl rfl) h3
  obtain ⟨a4, rfl, rfl, rfl, w4⟩ := open_int Try.underlying5 (hval 4 5 v4 rfl rfl) h4
  obtain ⟨a5, rfl, rfl, rfl⟩ := open_bool Try.underlying4 (hval 5 4 v5 rfl rfl) h5
  obtain ⟨a6, rfl, rfl, rfl⟩ := open_bool Try.underlying4 (hval 6 4 v6 rfl rfl) h6
  obtain ⟨a7, rfl, rfl, rfl⟩ := open_bool Try.underlying4 (hval 7 4 v7 rfl rfl) h7
  clear hA0 hval0
  simp only [List.append_nil] at hW'
  refine (walk a0 a1 a2 a3 a4 a5 a6 a7 w0 w4 W).mono fun e W' ⟨he, hg⟩ => ?_
  subst he
  exact ⟨_, rfl, post_of_same (pa := []) (pv := []) hW' (fun _ _ _ => (trodAll_cons_mk (shut_bool Try.underlying4 _) trodAll_mk0)) (fun sp _ => (trodAll_cons_mk (shut_int Try.underlying5 w0) (trodAll_cons_mk (shut_bool Try.underlying4 _) (trodAll_cons_mk (shut_bool Try.underlying4 _) (trodAll_cons_mk (shut_bool Try.underlying4 _) (trodAll_cons_mk (shut_int Try.underlying5 w4) (trodAll_cons_mk (shut_bool Try.underlying4 _) (trodAll_cons_mk (shut_bool Try.underlying4 _) (trodAll_cons_mk (shut_bool Try.underlying4 _) trodAll_mk0))))))))) (fun _ _ => rfl) rfl
    (hg.frame _) hg.2.1 (ok_one (by kernel_rfl) rfl (okWide_bool_mk Try.underlying4 _))⟩

theorem over : Rows.fnEDotAndEIndexSameFlagsAgreeRow.holds Try.pinned (OpenSpec.ofChange Rows.fnEDotAndEIndexSameFlagsAgreeSpec) :=
  OpenClaim.holds_of_wide 3 Try.f3 rfl rfl rfl rfl rfl rfl rfl ⟨rfl, rfl, rfl, rfl, rfl⟩ rfl rfl rfl rfl rfl (by kernel_rfl) Try.func3 (by kernel_rfl)
    (of_decide_eq_true (by kernel_rfl)) (by unfold Func.isWrapper; first | (rw [if_pos (by decide +kernel)]; kernel_rfl) | (rw [if_neg (by decide +kernel)]; exact ⟨rfl, rfl⟩))
    (fun os started H enc _ => lifted os started H enc)

/-- ████ THE STATEMENT ████ -/
theorem proved : Rows.FnEDotAndEIndexSameFlagsAgreeSaid :=
  over
#print axioms proved
end Go.Proofs.Ytajckegnkbfpaah.fnEDotAndEIndexSameFlagsAgree
