/-
  For every three bytes f, g, h the law FnAnnotationHasSymmetricMonotone returns true and leaves its arguments as they were; no condition.
  The frame of this text was written by the kit's program proof-skeleton.mjs for this statement; the walk and its lemmas are the prover's.
-/
import Derived.Test.YtlgjolenpibopabRows
import Derived.WalkKit
import Derived.ProofKit
import Derived.OpenShut
import Derived.Laws.BitsAllLaws
namespace Go.Proofs.Ytlgjolenpibopab.fnAnnotationHasSymmetricMonotone
open Go.ChangeShapes Go.WideShapes Go.ChangeAt Go.RowKit
set_option linter.unusedVariables false      -- a walk need not use every 'w<i>' (that an integer argument fits its kind)

theorem own : ownKnob Try.prog.godebug = none := by kernel_rfl

theorem ret_true {b : Bool} (h : b = true) : Ending.returned (.bool b) = .returned (.bool true) := by rw [h]
def hasB (a b : Int) : Bool := bits .and .u8 a b != 0
theorem hasB_nat (a b : Int) (h1 : 0 ≤ a) (h2 : a ≤ 255) (h3 : 0 ≤ b) (h4 : b ≤ 255) : hasB a b = (a.toNat &&& b.toNat != 0) := by
  unfold hasB
  rw [u8_and a b h1 (by omega) h3 (by omega)]
  rw [Bool.eq_iff_iff]; simp
theorem hasB_comm (a b : Int) (h1 : 0 ≤ a) (h2 : a ≤ 255) (h3 : 0 ≤ b) (h4 : b ≤ 255) : hasB b a = hasB a b := by
  rw [hasB_nat a b h1 h2 h3 h4, hasB_nat b a h3 h4 h1 h2, Nat.and_comm]
theorem hasB_self (a : Int) (h1 : 0 ≤ a) (h2 : a ≤ 255) : hasB a a = (a != 0) := by
  rw [hasB_nat a a h1 h2 h1 h2, Nat.and_self, Bool.eq_iff_iff]; simp; omega
theorem or_bounds (a b : Int) (h1 : 0 ≤ a) (h2 : a ≤ 255) (h3 : 0 ≤ b) (h4 : b ≤ 255) : 0 ≤ bits .or .u8 a b ∧ bits .or .u8 a b ≤ 255 := by
  rw [u8_or a b h1 (by omega) h3 (by omega)]
  have : a.toNat ||| b.toNat < 2 ^ 8 := Nat.or_lt_two_pow (by omega) (by omega)
  omega
theorem hasB_or (a b c : Int) (h1 : 0 ≤ a) (h2 : a ≤ 255) (h3 : 0 ≤ b) (h4 : b ≤ 255) (h5 : 0 ≤ c) (h6 : c ≤ 255) : hasB a (bits .or .u8 b c) = (hasB a b || hasB a c) := by
  have ho := or_bounds b c h3 h4 h5 h6
  rw [hasB_nat a _ h1 h2 ho.1 ho.2, hasB_nat a b h1 h2 h3 h4, hasB_nat a c h1 h2 h5 h6, u8_or b c h3 (by omega) h5 (by omega)]
  simp only [Int.toNat_natCast]
  rw [Nat.and_or_distrib_left, Bool.eq_iff_iff]; simp
  omega
theorem has_any (a b : Int) (w : World) : Calls Try.prog 9 #[.int .u8 a, .int .u8 b] w fun e w' => e = .returned (.bool (hasB a b)) ∧ w = w' := by
  go_enter Try.func9, Try.ntmps9
  go_wp2
  go_ret
  exact ⟨rfl, rfl⟩

theorem walk (a0 : Int) (a1 : Int) (a2 : Int) (w0 : (Lit.int .u8 a0).wf = true) (w1 : (Lit.int .u8 a1).wf = true) (w2 : (Lit.int .u8 a2).wf = true) (w : World) :
    Calls Try.prog 6 #[.int .u8 a0, .int .u8 a1, .int .u8 a2] w fun e w' => e = .returned (.bool true) ∧ Grown w w' := by
  obtain ⟨hl0, hh0⟩ := bounds_u8 w0
  obtain ⟨hl1, hh1⟩ := bounds_u8 w1
  obtain ⟨hl2, hh2⟩ := bounds_u8 w2
  have e1 := hasB_comm a0 a1 hl0 hh0 hl1 hh1
  have e2 := hasB_self a0 hl0 hh0
  have ho := or_bounds a0 a2 hl0 hh0 hl2 hh2
  have e3 : hasB (bits .or .u8 a0 a2) a1 = (hasB a0 a1 || hasB a2 a1) := by
    rw [hasB_comm a1 _ hl1 hh1 ho.1 ho.2, hasB_or a1 a0 a2 hl1 hh1 hl0 hh0 hl2 hh2, hasB_comm a0 a1 hl0 hh0 hl1 hh1, hasB_comm a2 a1 hl2 hh2 hl1 hh1]
  have e4 : hasB a0 0 = false := by
    rw [hasB_nat a0 0 hl0 hh0 (by omega) (by omega)]; simp
  clear w0 w1 w2 ho
  cases k1 : hasB a0 a1 <;> cases k2 : hasB a2 a1 <;> cases k3 : (a0 != 0)
  all_goals
    rw [k1] at e1; rw [k3] at e2; rw [k1, k2] at e3
    go_enter Try.func6, Try.ntmps6
    go_wp2_with (go_at_call 9; refine (has_any _ _ _).mono ?_; rintro e w' ⟨rfl, rfl⟩)
    all_goals (go_ret; exact ⟨ret_true (by first | rfl | simp_all), by repeat (first | exact Grown.refl _ | apply Grown.drew | apply Grown.alloc)⟩)

/-! ### THE ROW's STEP: WRITTEN OUT: LEAVE IT -/
set_option maxRecDepth 100000 in
theorem lifted (os : Os) (started : os.Started) (H : Type) (enc : TypeId × Value → H) :
    ReturnsInHanded {} Try.checked os 6 .any (Rows.fnAnnotationHasSymmetricMonotoneSpec.pre6 enc Try.prog Try.f6 Rows.fnAnnotationHasSymmetricMonotoneRow.domain false) (Rows.fnAnnotationHasSymmetricMonotoneSpec.post enc Try.prog Try.f6 false true false false) := by
  refine returnsInHanded_of_change (C := Try.checked) own started (by kernel_rfl) Try.func6
    (ChangeSpec.witness6 (enc := enc) (C := Try.checked) false ⟨#[], #[.int .u8 0, .int .u8 0, .int .u8 0], []⟩ 8 (by kernel_rfl) (by kernel_rfl) (by kernel_rfl) (by kernel_rfl)) ?_
  intro W base args ds gs before hval0 hW hcnd _
  have hval : ∀ (j : Nat) t v, Try.f6.params[j]? = some t → args[j]? = some v → Value.okWide Try.prog W .any base t v := hval0
  have hW' := hW
  obtain ⟨p, q, hA0, hV, rfl, hfz, hnd⟩ := hW
  have hA : DataW.TrodAll enc Try.prog W 0 (fun _ => true) true Try.f6.params.toList args.toList ds p := hA0
  rw [Try.params6] at hA hval
  obtain ⟨v0, vs0, d0, ds0, p0, q0, hargs, rfl, rfl, h0, r0⟩ := trodAll_cons hA
  obtain ⟨v1, vs1, d1, ds1, p1, q1, rfl, rfl, rfl, h1, r1⟩ := trodAll_cons r0
  obtain ⟨v2, vs2, d2, ds2, p2, q2, rfl, rfl, rfl, h2, r2⟩ := trodAll_cons r1
  obtain ⟨rfl, rfl, rfl⟩ := trodAll_nil r2
  obtain rfl : args = #[v0, v1, v2] := by cases args; simp_all
  obtain ⟨rfl, rfl⟩ := trodVars_none hV
  obtain ⟨a0, rfl, rfl, rfl, w0⟩ := open_int Try.underlying5 (hval 0 5 v0 rfl rfl) h0
  obtain ⟨a1, rfl, rfl, rfl, w1⟩ := open_int Try.underlying5 (hval 1 5 v1 rfl rfl) h1
  obtain ⟨a2, rfl, rfl, rfl, w2⟩ := open_int Try.underlying5 (hval 2 5 v2 rfl rfl) h2
  clear hA0 hval0
  simp only [List.append_nil] at hW'
  refine (walk a0 a1 a2 w0 w1 w2 W).mono fun e W' ⟨he, hg⟩ => ?_
  subst he
  exact ⟨_, rfl, post_of_same (pa := []) (pv := []) hW' (fun _ _ _ => (trodAll_cons_mk (shut_bool Try.underlying4 _) trodAll_mk0)) (fun sp _ => (trodAll_cons_mk (shut_int Try.underlying5 w0) (trodAll_cons_mk (shut_int Try.underlying5 w1) (trodAll_cons_mk (shut_int Try.underlying5 w2) trodAll_mk0)))) (fun _ _ => rfl) rfl
    (hg.frame _) hg.2.1 (ok_one (by kernel_rfl) rfl (okWide_bool_mk Try.underlying4 _))⟩

theorem over : Rows.fnAnnotationHasSymmetricMonotoneRow.holds Try.pinned (OpenSpec.ofChange Rows.fnAnnotationHasSymmetricMonotoneSpec) :=
  OpenClaim.holds_of_wide 6 Try.f6 rfl rfl rfl rfl rfl rfl rfl ⟨rfl, rfl, rfl, rfl, rfl⟩ rfl rfl rfl rfl rfl (by kernel_rfl) Try.func6 (by kernel_rfl)
    (of_decide_eq_true (by kernel_rfl)) (by unfold Func.isWrapper; first | (rw [if_pos (by decide +kernel)]; kernel_rfl) | (rw [if_neg (by decide +kernel)]; exact ⟨rfl, rfl⟩))
    (fun os started H enc _ => lifted os started H enc)

/-- ████ THE STATEMENT ████ -/
theorem proved : Rows.FnAnnotationHasSymmetricMonotoneSaid :=
  over
#print axioms proved
end Go.Proofs.Ytlgjolenpibopab.fnAnnotationHasSymmetricMonotone
