/-
  For every eight inputs the law FnEIndexSameFlagsIsEqualFlagKey returns true and leaves its arguments as they were; no condition.
  The frame of this text was written by the kit's program proof-skeleton.mjs for this statement; the walk and its lemmas are the prover's.
-/
import Derived.Test.YtajckegnkbfpaafRows
import Derived.WalkKit
import Derived.ProofKit
import Derived.OpenShut
import Derived.Laws.BitsAllLaws
import Derived.Deep.QuietTactic
import Derived.BigQuiet
import Derived.Lib.Hide
namespace Go.Proofs.Ytajckegnkbfpaaf.fnEIndexSameFlagsIsEqualFlagKey
open Go.ChangeShapes Go.WideShapes Go.ChangeAt Go.RowKit
set_option linter.unusedVariables false      -- a walk need not use every 'w<i>' (that an integer argument fits its kind)

theorem own : ownKnob Try.prog.godebug = none := by kernel_rfl

theorem ret_true {b : Bool} (h : b = true) : Ending.returned (.bool b) = .returned (.bool true) := by rw [h]
theorem ret_int {k : IntKind} {a b : Int} (h : a = b) : Ending.returned (.int k a) = .returned (.int k b) := by rw [h]
def key (oc : Int) (r u s : Bool) : Int := oc * 256 + (if r then 1 else 0) + (if u then 2 else 0) + (if s then 4 else 0)
theorem or1 (n : Int) (h1 : 0 ≤ n) (h2 : n < 4294967296) (h3 : n % 2 = 0) : bits .or .u32 n 1 = n + 1 := by
  rw [u32_or _ _ (by omega) (by omega) (by omega) (by omega), nat_join 1 _ _ (by omega) (by omega)]
  omega
theorem or2 (n : Int) (h1 : 0 ≤ n) (h2 : n < 4294967296) (h3 : n % 4 < 2) : bits .or .u32 n 2 = n + 2 := by
  obtain ⟨m, r, hm, hr⟩ : ∃ m r : Nat, n = ((4 * m + r : Nat) : Int) ∧ r < 2 := ⟨(n / 4).toNat, (n % 4).toNat, by omega, by omega⟩
  subst hm
  rw [u32_or _ _ (by omega) (by omega) (by omega) (by omega)]
  have e : (4 * m + r) ||| 2 = 4 * m + r + 2 := by
    have h0 : 4 * m + r = 4 * m ||| r := (nat_join 2 _ _ (by omega) (by omega)).symm
    rw [h0, Nat.or_assoc]
    have : r ||| 2 = r + 2 := by rcases (show r = 0 ∨ r = 1 by omega) with rfl | rfl <;> rfl
    rw [this, nat_join 2 _ _ (by omega) (by omega), nat_join 2 _ _ (by omega) (by omega)]
    omega
  simp only [Int.toNat_natCast]
  show ((4 * m + r ||| 2 : Nat) : Int) = _
  rw [e]; omega
theorem or4 (n : Int) (h1 : 0 ≤ n) (h2 : n < 4294967296) (h3 : n % 8 < 4) : bits .or .u32 n 4 = n + 4 := by
  obtain ⟨m, r, hm, hr⟩ : ∃ m r : Nat, n = ((8 * m + r : Nat) : Int) ∧ r < 4 := ⟨(n / 8).toNat, (n % 8).toNat, by omega, by omega⟩
  subst hm
  rw [u32_or _ _ (by omega) (by omega) (by omega) (by omega)]
  have e : (8 * m + r) ||| 4 = 8 * m + r + 4 := by
    have h0 : 8 * m + r = 8 * m ||| r := (nat_join 3 _ _ (by omega) (by omega)).symm
    rw [h0, Nat.or_assoc]
    have : r ||| 4 = r + 4 := by rcases (show r = 0 ∨ r = 1 ∨ r = 2 ∨ r = 3 by omega) with rfl | rfl | rfl | rfl <;> rfl
    rw [this, nat_join 3 _ _ (by omega) (by omega), nat_join 3 _ _ (by omega) (by omega)]
    omega
  simp only [Int.toNat_natCast]
  show ((8 * m + r ||| 4 : Nat) : Int) = _
  rw [e]; omega
theorem key_any (oc : Int) (r u s : Bool) (w : World) (h1 : 0 ≤ oc) (h2 : oc ≤ 255) :
    Calls Try.prog 6 #[.int .u8 oc, .bool r, .bool u, .bool s] w fun e w' => e = .returned (.int .u32 (key oc r u s)) ∧ w = w' := by
  cases r <;> cases u <;> cases s
  all_goals
    go_enter Try.func6, Try.ntmps6
    go_wp2
    go_ret
    exact ⟨ret_int (by simp only [key]; (try rw [or1 _ (by omega) (by omega) (by omega)]); (try rw [or2 _ (by omega) (by omega) (by omega)]); (try rw [or4 _ (by omega) (by omega) (by omega)]); simp), rfl⟩
set_option maxHeartbeats 1000000 in
theorem same_any (p q : Nat) (a0 b0 : Int) (a1 a2 a3 b1 b2 b3 : Bool) (w : World)
    (h0 : w.cell? ⟨p, 5, none⟩ = some (.int .u8 a0)) (h1 : w.cell? ⟨p, 6, none⟩ = some (.bool a1)) (h2 : w.cell? ⟨p, 7, none⟩ = some (.bool a2)) (h3 : w.cell? ⟨p, 8, none⟩ = some (.bool a3))
    (g0 : w.cell? ⟨q, 5, none⟩ = some (.int .u8 b0)) (g1 : w.cell? ⟨q, 6, none⟩ = some (.bool b1)) (g2 : w.cell? ⟨q, 7, none⟩ = some (.bool b2)) (g3 : w.cell? ⟨q, 8, none⟩ = some (.bool b3)) :
    Calls Try.prog 5 #[.pointer (some ⟨p, 0, none⟩), .pointer (some ⟨q, 0, none⟩)] w fun e w' => e = .returned (.bool (a0 == b0 && a1 == b1 && a2 == b2 && a3 == b3)) ∧ ∃ n, w' = w.drewN n := by
  cases c0 : (a0 == b0) <;> cases c1 : (a1 == b1) <;> cases c2 : (a2 == b2) <;> cases c3 : (a3 == b3)
  all_goals
    go_enter Try.func5, Try.ntmps5
    go_wp2
    go_quiet (fail)
    go_wp2
    go_ret
    exact ⟨rfl, _, rfl⟩
theorem grown_drewN {w w' : World} (n : Nat) (h : Grown w w') : Grown w (w'.drewN n) := by
  induction n with
  | zero => exact h
  | succ n ih => exact ih.drew

set_option maxHeartbeats 1000000 in
theorem walk (a0 : Int) (a1 : Bool) (a2 : Bool) (a3 : Bool) (a4 : Int) (a5 : Bool) (a6 : Bool) (a7 : Bool) (w0 : (Lit.int .u8 a0).wf = true) (w4 : (Lit.int .u8 a4).wf = true) (w : World) :
    Calls Try.prog 3 #[.int .u8 a0, .bool a1, .bool a2, .bool a3, .int .u8 a4, .bool a5, .bool a6, .bool a7] w fun e w' => e = .returned (.bool true) ∧ Grown w w' := by
  obtain ⟨hl0, hh0⟩ := bounds_u8 w0
  obtain ⟨hl4, hh4⟩ := bounds_u8 w4
  clear w0 w4
  have hk : (key a0 a1 a2 a3 == key a4 a5 a6 a7) = (a0 == a4 && a1 == a5 && a2 == a6 && a3 == a7) := by
    rw [Bool.eq_iff_iff]; unfold key
    cases a1 <;> cases a2 <;> cases a3 <;> cases a5 <;> cases a6 <;> cases a7 <;> simp <;> omega
  have HK := Lib.hid hk
  clear hk
  go_enter Try.func3, Try.ntmps3
  go_wp2_with (first | (go_at_call 6; refine (key_any _ _ _ _ _ (by assumption) (by assumption)).mono ?_; rintro e w' ⟨rfl, rfl⟩) | (go_at_call 5; refine (same_any _ _ a0 a4 a1 a2 a3 a5 a6 a7 _ (by go_simp) (by go_simp) (by go_simp) (by go_simp) (by go_simp) (by go_simp) (by go_simp) (by go_simp)).mono ?_; rintro e w' ⟨rfl, n, rfl⟩) | (go_at_call 4; go_in))
  go_ret
  exact ⟨ret_true (by rw [HK.out]; simp), grown_drewN _ (by repeat (first | exact Grown.refl _ | apply Grown.drew | apply Grown.alloc))⟩

/-! ### THE ROW's STEP: WRITTEN OUT: LEAVE IT -/
set_option maxRecDepth 100000 in
theorem lifted (os : Os) (started : os.Started) (H : Type) (enc : TypeId × Value → H) :
    ReturnsInHanded {} Try.checked os 3 .any (Rows.fnEIndexSameFlagsIsEqualFlagKeySpec.pre6 enc Try.prog Try.f3 Rows.fnEIndexSameFlagsIsEqualFlagKeyRow.domain false) (Rows.fnEIndexSameFlagsIsEqualFlagKeySpec.post enc Try.prog Try.f3 false true false false) := by
  refine returnsInHanded_of_change (C := Try.checked) own started (by kernel_rfl) Try.func3
    (ChangeSpec.witness6 (enc := enc) (C := Try.checked) false ⟨#[], #[.int .u8 0, .bool false, .bool false, .bool false, .int .u8 0, .bool false, .bool false, .bool false], []⟩ 8 (by kernel_rfl) (by kernel_rfl) (by kernel_rfl) (by kernel_rfl)) ?_
  intro W base args ds gs before hval0 hW hcnd _
  have hval : ∀ (j : Nat) t v, Try.f3.params[j]? = some t → args[j]? = some v → Value.okWide Try.prog W .any base t v := hval0
  have hW' := hW
  obtain ⟨p, q, hA0, hV, rfl, hfz, hnd⟩ := hW
  have hA : DataW.TrodAll enc Try.prog W 0 (fun _ => true) true Try.f3.params.toList args.toList ds p := hA0
  rw [Try.params3] at hA hval
  obtain ⟨v0, vs0, d0, ds0, p0, q0, hargs, rfl, rfl, h0, r0⟩ := trodAll_cons hA
  obtain ⟨v1, vs1, d1, ds1, p1, q1, rfl, rfl, rfl, h1, r1⟩ := trodAll_cons r0
  obtain ⟨v2, vs2, d2, ds2, p2, q2, rfl, rfl, rfl, h2, r2⟩ := trodAll_cons r1
  obtain ⟨v3, vs3, d3, ds3, p3, q3, rfl, rfl, rfl, h3, r3⟩ := trodAll_cons r2
  obtain ⟨v4, vs4, d4, ds4, p4, q4, rfl, rfl, rfl, h4, r4⟩ := trodAll_cons r3
  obtain ⟨v5, vs5, d5, ds5, p5, q5, rfl, rfl, rfl, h5, r5⟩ := trodAll_cons r4
  obtain ⟨v6, vs6, d6, ds6, p6, q6, rfl, rfl, rfl, h6, r6⟩ := trodAll_cons r5
  obtain ⟨v7, vs7, d7, ds7, p7, q7, rfl, rfl, rfl, h7, r7⟩ := trodAll_cons r6
  obtain ⟨rfl, rfl, rfl⟩ := trodAll_nil r7
  obtain rfl : args = #[v0, v1, v2, v3, v4, v5, v6, v7] := by cases args; simp_all
  obtain ⟨rfl, rfl⟩ := trodVars_none hV
  obtain ⟨a0, rfl, rfl, rfl, w0⟩ := open_int Try.underlying5 (hval 0 5 v0 rfl rfl) h0
  obtain ⟨a1, rfl, rfl, rfl⟩ := open_bool Try.underlying4 (hval 1 4 v1 rfl rfl) h1
  obtain ⟨a2, rfl, rfl, rfl⟩ := open_bool Try.underlying4 (hval 2 4 v2 rfl rfl) h2
  obtain ⟨a3, rfl, rfl, rfl⟩ := open_bool Try.underlying4 (hval 3 4 v3 rfl rfl) h3
  obtain ⟨a4, rfl, rfl, rfl, w4⟩ := open_int Try.underlying5 (hval 4 5 v4 rfl rfl) h4
  obtain ⟨a5, rfl, rfl, rfl⟩ := open_bool Try.underlying4 (hval 5 4 v5 rfl rfl) h5
  obtain ⟨a6, rfl, rfl, rfl⟩ := open_bool Try.underlying4 (hval 6 4 v6 rfl rfl) h6
  obtain ⟨a7, rfl, rfl, rfl⟩ := open_bool Try.underlying4 (hval 7 4 v7 rfl rfl) h7
  clear hA0 hval0
  simp only [List.append_nil] at hW'
  refine (walk a0 a1 a2 a3 a4 a5 a6 a7 w0 w4 W).mono fun e W' ⟨he, hg⟩ => ?_
  subst he
  exact ⟨_, rfl, post_of_same (pa := []) (pv := []) hW' (fun _ _ _ => (trodAll_cons_mk (shut_bool Try.underlying4 _) trodAll_mk0)) (fun sp _ => (trodAll_cons_mk (shut_int Try.underlying5 w0) (trodAll_cons_mk (shut_bool Try.underlying4 _) (trodAll_cons_mk (shut_bool Try.underlying4 _) (trodAll_cons_mk (shut_bool Try.underlying4 _) (trodAll_cons_mk (shut_int Try.underlying5 w4) (trodAll_cons_mk (shut_bool Try.underlying4 _) (trodAll_cons_mk (shut_bool Try.underlying4 _) (trodAll_cons_mk (shut_bool Try.underlying4 _) trodAll_mk0))))))))) (fun _ _ => rfl) rfl
    (hg.frame _) hg.2.1 (ok_one (by kernel_rfl) rfl (okWide_bool_mk Try.underlying4 _))⟩

theorem over : Rows.fnEIndexSameFlagsIsEqualFlagKeyRow.holds Try.pinned (OpenSpec.ofChange Rows.fnEIndexSameFlagsIsEqualFlagKeySpec) :=
  OpenClaim.holds_of_wide 3 Try.f3 rfl rfl rfl rfl rfl rfl rfl ⟨rfl, rfl, rfl, rfl, rfl⟩ rfl rfl rfl rfl rfl (by kernel_rfl) Try.func3 (by kernel_rfl)
    (of_decide_eq_true (by kernel_rfl)) (by unfold Func.isWrapper; first | (rw [if_pos (by decide +kernel)]; kernel_rfl) | (rw [if_neg (by decide +kernel)]; exact ⟨rfl, rfl⟩))
    (fun os started H enc _ => lifted os started H enc)

/-- ████ THE STATEMENT ████ -/
theorem proved : Rows.FnEIndexSameFlagsIsEqualFlagKeySaid :=
  over
#print axioms proved
end Go.Proofs.Ytajckegnkbfpaaf.fnEIndexSameFlagsIsEqualFlagKey
