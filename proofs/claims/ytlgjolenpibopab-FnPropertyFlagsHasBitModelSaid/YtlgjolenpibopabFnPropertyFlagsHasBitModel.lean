/-
  For every two bytes f and g the law FnPropertyFlagsHasBitModel returns true and leaves its arguments as they were; no condition.
  The frame of this text was written by the kit's program proof-skeleton.mjs for this statement; the walk and its lemmas are the prover's.
-/
import Derived.Test.YtlgjolenpibopabRows
import Derived.WalkKit
import Derived.ProofKit
import Derived.OpenShut
import Derived.Laws.BitsAllLaws
import Derived.LoopTactic
import Derived.Lib.Hide
namespace Go.Proofs.Ytlgjolenpibopab.fnPropertyFlagsHasBitModel
open Go.ChangeShapes Go.WideShapes Go.ChangeAt Go.RowKit
set_option linter.unusedVariables false      -- a walk need not use every 'w<i>' (that an integer argument fits its kind)

theorem own : ownKnob Try.prog.godebug = none := by kernel_rfl

theorem ret_true {b : Bool} (h : b = true) : Ending.returned (.bool b) = .returned (.bool true) := by rw [h]
def hasB (a b : Int) : Bool := bits .and .u8 a b != 0
def both (a b : Nat) : Nat → Bool
  | 0 => false
  | k + 1 => (a.testBit k && b.testBit k) || both a b k
theorem both_iff (a b k : Nat) : both a b k = true ↔ ∃ j, j < k ∧ a.testBit j = true ∧ b.testBit j = true := by
  induction k with
  | zero => simp [both]
  | succ k ih =>
    simp only [both, Bool.or_eq_true, Bool.and_eq_true, ih]
    constructor
    · rintro (⟨h1, h2⟩ | ⟨j, h, h1, h2⟩)
      · exact ⟨k, by omega, h1, h2⟩
      · exact ⟨j, by omega, h1, h2⟩
    · rintro ⟨j, h, h1, h2⟩
      by_cases e : j = k
      · subst e; exact .inl ⟨h1, h2⟩
      · exact .inr ⟨j, by omega, h1, h2⟩
theorem hasB_both (a b : Nat) (ha : a < 256) (hb : b < 256) : hasB a b = both a b 8 := by
  unfold hasB
  rw [u8_and_nat a b ha hb, Bool.eq_iff_iff, both_iff]
  simp only [bne_iff_ne, ne_eq, Int.natCast_eq_zero]
  constructor
  · intro h
    by_cases hex : ∃ j, j < 8 ∧ a.testBit j = true ∧ b.testBit j = true
    · exact hex
    · exfalso
      apply h
      apply Nat.eq_of_testBit_eq
      intro i
      rw [Nat.testBit_and, Nat.zero_testBit]
      by_cases hi : i < 8
      · cases h1 : a.testBit i <;> cases h2 : b.testBit i <;> simp
        exact absurd ⟨i, hi, h1, h2⟩ hex
      · have : a.testBit i = false := Nat.testBit_lt_two_pow (Nat.lt_of_lt_of_le ha (show 2 ^ 8 ≤ 2 ^ i from Nat.pow_le_pow_right (by decide) (by omega)))
        rw [this]; rfl
  · rintro ⟨j, _, h1, h2⟩ h
    have : (a &&& b).testBit j = true := by rw [Nat.testBit_and, h1, h2]; rfl
    rw [h, Nat.zero_testBit] at this
    cases this
def shr (a k : Nat) : Nat := a / 2 ^ k
theorem odd_of (a k : Nat) : (((shr a k : Nat) : Int) % 2 == 1) = a.testBit k := by
  unfold shr
  rw [Nat.testBit_eq_decide_div_mod_eq, Bool.eq_iff_iff, beq_iff_eq, decide_eq_true_iff]
  generalize a / 2 ^ k = m
  omega
theorem half_of (a k : Nat) : ((shr a k : Nat) : Int) / 2 = ((shr a (k + 1) : Nat) : Int) := by
  unfold shr
  rw [Nat.pow_succ, ← Nat.div_div_eq_div_mul]; omega
theorem has_any (a b : Int) (w : World) : Calls Try.prog 7 #[.int .u8 a, .int .u8 b] w fun e w' => e = .returned (.bool (hasB a b)) ∧ w = w' := by
  go_enter Try.func7, Try.ntmps7
  go_wp2
  go_ret
  exact ⟨rfl, rfl⟩

theorem walk (a0 : Int) (a1 : Int) (w0 : (Lit.int .u8 a0).wf = true) (w1 : (Lit.int .u8 a1).wf = true) (w : World) :
    Calls Try.prog 4 #[.int .u8 a0, .int .u8 a1] w fun e w' => e = .returned (.bool true) ∧ Grown w w' := by
  obtain ⟨hl0, hh0⟩ := bounds_u8 w0
  obtain ⟨hl1, hh1⟩ := bounds_u8 w1
  clear w0 w1
  obtain ⟨a, rfl⟩ := Int.eq_ofNat_of_zero_le hl0
  obtain ⟨b, rfl⟩ := Int.eq_ofNat_of_zero_le hl1
  have HB := Lib.hid (hasB_both a b (by omega) (by omega))
  go_enter Try.func4, Try.ntmps4
  go_wp2
  go_loop [5, 6, 7, 8] (fun x y z i => ∃ k : Nat, k ≤ 8 ∧ i = .int .i64 k ∧ x = .int .u8 ((shr a k : Nat) : Int) ∧ y = .int .u8 ((shr b k : Nat) : Int) ∧ z = .bool (both a b k)) (fun _ _ _ i => (8 - intOf i).toNat)
  case atStart => exact ⟨0, by omega, rfl, by simp [shr], by simp [shr], rfl⟩
  case round =>
    obtain ⟨k, hk, rfl, rfl, rfl, rfl⟩ := hrel
    by_cases hlt : k < 8
    · have ox := odd_of a k
      have oy := odd_of b k
      have bx : shr a k ≤ 255 := Nat.le_trans (Nat.div_le_self _ _) (by omega)
      have by' : shr b k ≤ 255 := Nat.le_trans (Nat.div_le_self _ _) (by omega)
      have HX := Lib.hid (half_of a k)
      have HY := Lib.hid (half_of b k)
      have HB1 : Hid (both a b (k + 1) = ((a.testBit k && b.testBit k) || both a b k)) := rfl
      cases h1 : a.testBit k <;> cases h2 : b.testBit k
      all_goals
        rw [h1] at ox HB1; rw [h2] at oy HB1
        clear h1 h2
        go_wp2
        go_round
        case rel => exact ⟨k + 1, by omega, by go_num, by rw [← HX.out], by rw [← HY.out], by rw [HB1.out]; simp⟩
        case measure => simp [intOf]; omega
    · obtain rfl : k = 8 := by omega
      go_wp2_with (go_at_call 7; refine (has_any _ _ _).mono ?_; rintro e w' ⟨rfl, rfl⟩)
      go_ret
      exact ⟨ret_true (by rw [HB.out]; simp), by repeat (first | exact Grown.refl _ | apply Grown.drew | apply Grown.alloc)⟩

/-! ### THE ROW's STEP: WRITTEN OUT: LEAVE IT -/
set_option maxRecDepth 100000 in
theorem lifted (os : Os) (started : os.Started) (H : Type) (enc : TypeId × Value → H) :
    ReturnsInHanded {} Try.checked os 4 .any (Rows.fnPropertyFlagsHasBitModelSpec.pre6 enc Try.prog Try.f4 Rows.fnPropertyFlagsHasBitModelRow.domain false) (Rows.fnPropertyFlagsHasBitModelSpec.post enc Try.prog Try.f4 false true false false) := by
  refine returnsInHanded_of_change (C := Try.checked) own started (by kernel_rfl) Try.func4
    (ChangeSpec.witness6 (enc := enc) (C := Try.checked) false ⟨#[], #[.int .u8 0, .int .u8 0], []⟩ 8 (by kernel_rfl) (by kernel_rfl) (by kernel_rfl) (by kernel_rfl)) ?_
  intro W base args ds gs before hval0 hW hcnd _
  have hval : ∀ (j : Nat) t v, Try.f4.params[j]? = some t → args[j]? = some v → Value.okWide Try.prog W .any base t v := hval0
  have hW' := hW
  obtain ⟨p, q, hA0, hV, rfl, hfz, hnd⟩ := hW
  have hA : DataW.TrodAll enc Try.prog W 0 (fun _ => true) true Try.f4.params.toList args.toList ds p := hA0
  rw [Try.params4] at hA hval
  obtain ⟨v0, vs0, d0, ds0, p0, q0, hargs, rfl, rfl, h0, r0⟩ := trodAll_cons hA
  obtain ⟨v1, vs1, d1, ds1, p1, q1, rfl, rfl, rfl, h1, r1⟩ := trodAll_cons r0
  obtain ⟨rfl, rfl, rfl⟩ := trodAll_nil r1
  obtain rfl : args = #[v0, v1] := by cases args; simp_all
  obtain ⟨rfl, rfl⟩ := trodVars_none hV
  obtain ⟨a0, rfl, rfl, rfl, w0⟩ := open_int Try.underlying5 (hval 0 5 v0 rfl rfl) h0
  obtain ⟨a1, rfl, rfl, rfl, w1⟩ := open_int Try.underlying5 (hval 1 5 v1 rfl rfl) h1
  clear hA0 hval0
  simp only [List.append_nil] at hW'
  refine (walk a0 a1 w0 w1 W).mono fun e W' ⟨he, hg⟩ => ?_
  subst he
  exact ⟨_, rfl, post_of_same (pa := []) (pv := []) hW' (fun _ _ _ => (trodAll_cons_mk (shut_bool Try.underlying4 _) trodAll_mk0)) (fun sp _ => (trodAll_cons_mk (shut_int Try.underlying5 w0) (trodAll_cons_mk (shut_int Try.underlying5 w1) trodAll_mk0))) (fun _ _ => rfl) rfl
    (hg.frame _) hg.2.1 (ok_one (by kernel_rfl) rfl (okWide_bool_mk Try.underlying4 _))⟩

theorem over : Rows.fnPropertyFlagsHasBitModelRow.holds Try.pinned (OpenSpec.ofChange Rows.fnPropertyFlagsHasBitModelSpec) :=
  OpenClaim.holds_of_wide 4 Try.f4 rfl rfl rfl rfl rfl rfl rfl ⟨rfl, rfl, rfl, rfl, rfl⟩ rfl rfl rfl rfl rfl (by kernel_rfl) Try.func4 (by kernel_rfl)
    (of_decide_eq_true (by kernel_rfl)) (by unfold Func.isWrapper; first | (rw [if_pos (by decide +kernel)]; kernel_rfl) | (rw [if_neg (by decide +kernel)]; exact ⟨rfl, rfl⟩))
    (fun os started H enc _ => lifted os started H enc)

/-- ████ THE STATEMENT ████ -/
theorem proved : Rows.FnPropertyFlagsHasBitModelSaid :=
  over
#print axioms proved
end Go.Proofs.Ytlgjolenpibopab.fnPropertyFlagsHasBitModel
