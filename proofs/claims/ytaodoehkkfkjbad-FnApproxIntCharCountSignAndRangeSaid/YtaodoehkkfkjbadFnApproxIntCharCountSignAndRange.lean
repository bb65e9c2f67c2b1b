/-
  For every float64 the law FnApproxIntCharCountSignAndRange returns true and leaves its argument as it was; no condition.
  The frame of this text was written by the kit's program proof-skeleton.mjs for this statement; the walk and its lemmas are the prover's.
-/
import Derived.Test.YtaodoehkkfkjbadRows
import Derived.WalkKit
import Derived.ProofKit
import Derived.OpenShut
import Derived.Test.YtaodoehkkfkjbadFltM
import Derived.Test.YtaodoehkkfkjbadLgA
import Derived.Test.YtaodoehkkfkjbadLgB
import Derived.Test.YtaodoehkkfkjbadLgC
import Derived.Test.YtaodoehkkfkjbadLgD
import Derived.Test.YtaodoehkkfkjbadLgE
import Derived.Outline
import Derived.Lib.Hide
import Derived.ShutString
import Derived.ChangeOld
import Derived.Below
import Derived.WalkLawsBesides
import Derived.Deep.Slices
import Derived.Laws.Cover2
namespace Go.Proofs.Ytaodoehkkfkjbad.fnApproxIntCharCountSignAndRange
open Go.ChangeShapes Go.WideShapes Go.ChangeAt Go.RowKit
open Go.ChangeMaps (open_string shut_string)
open Go.Deep (open_slice1)
set_option linter.unusedVariables false

theorem own : ownKnob Try.prog.godebug = none := by kernel_rfl
theorem laidOut : laidOutB Try.prog = true := by kernel_rfl

theorem wd_f (r : Nat) : wd false r = r := by unfold wd; simp
theorem split64 (a : Nat) (h : a < 18446744073709551616) : ∃ s r, a = wd s r ∧ r < 9223372036854775808 := by
  by_cases hs : a < 9223372036854775808
  · exact ⟨false, a, (wd_f a).symm, hs⟩
  · exact ⟨true, a - 9223372036854775808, by unfold wd; rw [if_pos rfl]; omega, by omega⟩
theorem below_drew {B : Nat} {w w' : World} (h : Below B w w') : Below B w w'.drew := ⟨h.1, h.2, h.3, h.4, h.5⟩
theorem self_sub (s : Bool) (r : Nat) (hr : r < 9218868437227405312) : Ieee.double.sub (wd s r) (wd s r) = some 0 := by
  unfold Ieee.Format.sub
  rw [read_wd s r hr]
  unfold Ieee.Datum.opposite Ieee.Datum.sum
  simp only [signed_sg, Option.map_some]
  congr 1
  have e : sg s (mant r * 2 ^ (-1074 + (expo r : Int) - min (-1074 + (expo r : Int)) (-1074 + (expo r : Int))).toNat) + sg (!s) (mant r * 2 ^ (-1074 + (expo r : Int) - min (-1074 + (expo r : Int)) (-1074 + (expo r : Int))).toNat) = 0 := by
    rw [sg_not]; omega
  rw [e]
  show Ieee.double.nearest _ 0 _ = 0
  rw [near0]
  cases s <;> rfl
theorem bad_sub (s : Bool) (r : Nat) (h1 : 9218868437227405312 ≤ r) (h2 : r < 9223372036854775808) : Ieee.double.sub (wd s r) (wd s r) = none := by
  unfold Ieee.Format.sub
  have : Ieee.double.read (wd s r) = if r = 9218868437227405312 then .infinity s else .nan s (r - 9218868437227405312) := by
    unfold Ieee.Format.read
    simp only [d1, d2, d3, d4]
    have e1 : wd s r % 9223372036854775808 = r := wd_mod s r h2
    have e2 : (wd s r / 9223372036854775808 % 2 == 1) = s := by
      unfold wd
      cases s
      · simp; omega
      · simp; omega
    rw [e1, e2, if_neg (by omega), if_neg (by omega)]
  rw [this]
  by_cases h : r = 9218868437227405312
  · rw [if_pos h]
    cases s <;> rfl
  · rw [if_neg h]; rfl
/-- What an invalid difference gives is no number. -/
theorem nan_cut (x y t : Nat) : ∃ s r, (Question.nanBits .f64 x y).cut t = wd s r ∧ 9218868437227405312 < r ∧ r < 9223372036854775808 := by
  refine ⟨t % 2 == 1, 9218868437227405313 + t / 2 % 4503599627370495, ?_, by omega, by omega⟩
  show t % 2 * 2 ^ 63 + 0x7ff0000000000000 + 1 + t / 2 % (2 ^ 52 - 1) = _
  unfold wd
  by_cases h : t % 2 = 1
  · rw [h]; simp only [beq_self_eq_true, if_true]; omega
  · have h0 : t % 2 = 0 := by omega
    rw [h0]; simp only [Nat.zero_mul, Nat.zero_add]
    rw [if_neg (by decide)]
theorem nan_neq (s : Bool) (r : Nat) (h1 : 9218868437227405312 < r) (h2 : r < 9223372036854775808) : (FloatKind.f64.format.order (wd s r) 0 != some .eq) = true := by
  have : Ieee.double.read (wd s r) = .nan s (r - 9218868437227405312) := by
    unfold Ieee.Format.read
    simp only [d1, d2, d3, d4]
    have e1 : wd s r % 9223372036854775808 = r := wd_mod s r h2
    have e2 : (wd s r / 9223372036854775808 % 2 == 1) = s := by
      unfold wd
      cases s
      · simp; omega
      · simp; omega
    rw [e1, e2, if_neg (by omega), if_neg (by omega), if_neg (by omega)]
  show (Ieee.double.order (wd s r) 0 != some .eq) = true
  unfold Ieee.Format.order
  rw [this]
  rfl
theorem bad_run (s : Bool) (r : Nat) (w : World) (h1 : 9218868437227405312 ≤ r) (h2 : r < 9223372036854775808) : ∃ s' q, (binOp .sub 22 (.float .f64 (wd s r)) (.float .f64 (wd s r))).run Try.prog w = .ok (.float .f64 (wd s' q)) w.drew ∧ 9218868437227405312 < q ∧ q < 9223372036854775808 := by
  obtain ⟨s', q, e, g1, g2⟩ := nan_cut (wd s r) (wd s r) (w.tape w.drawn (Question.nanBits .f64 (wd s r) (wd s r)))
  refine ⟨s', q, ?_, g1, g2⟩
  have hsub : FloatKind.f64.format.sub (wd s r) (wd s r) = none := bad_sub s r h1 h2
  simp [binOp, Op.floatArith, hsub, Question.forced, e]
theorem order_zero (s : Bool) (r : Nat) (hr : r < 9218868437227405312) (b : Bool) (h : (FloatKind.f64.format.order (wd s r) 0 == some .lt) = b) : b = (s && decide (0 < r)) := by
  have e : FloatKind.f64.format.order (wd s r) 0 = some (compare (sg s (val r)) 0) := by
    have h := order_wd s false r 0 hr (by omega)
    rw [show val 0 = 0 by unfold val mant; simp] at h
    exact h
  rw [e] at h
  have hv : 0 < val r ↔ 0 < r := by
    have := val_lt_iff 0 r
    rw [show val 0 = 0 by unfold val mant; simp] at this
    exact this
  rw [← h]
  cases s
  · rw [sgf]
    have : compare ((val r : Nat) : Int) 0 ≠ .lt := by rw [ne_eq, Int.compare_eq_lt]; omega
    cases hc : compare ((val r : Nat) : Int) 0 <;> first | rfl | exact absurd hc this
  · rw [sgt]
    by_cases h0 : 0 < r
    · have := hv.2 h0
      rw [Int.compare_eq_lt.2 (by omega), decide_eq_true h0]; rfl
    · have h1 : val r = 0 := by
        rcases Nat.eq_zero_or_pos (val r) with h2 | h2
        · exact h2
        · exact absurd (hv.1 h2) h0
      rw [h1, decide_eq_false h0]; rfl
theorem order_nine (s : Bool) (r : Nat) (hr : r < 9218868437227405312) (h0 : s = false ∨ r = 0) (h : (FloatKind.f64.format.order (wd s r) 4621256167635550208 == some .lt) = true) : r < 4621256167635550208 := by
  rcases h0 with rfl | rfl
  · have e : FloatKind.f64.format.order (wd false r) 4621256167635550208 = some (compare (sg false (val r)) (sg false (val 4621256167635550208))) := order_wd false false r 4621256167635550208 hr (by omega)
    rw [e, sgf, sgf, beq_iff_eq] at h
    injection h with h
    rw [Int.compare_eq_lt] at h
    exact (val_lt_iff _ _).1 (by omega)
  · omega
theorem h00 : (FloatKind.f64.format.order 0 0 != some .eq) = false := by decide

theorem walk (a0 : Nat) (w : World) (w0 : (Lit.float .f64 a0).wf = true) :
    Calls Try.prog 3 #[.float .f64 a0] w fun e w' => e = .returned (.bool true) ∧ Below w.heap.size w w' := by
  have hw : a0 < 18446744073709551616 := by simpa [Lit.wf] using w0
  obtain ⟨s, r, rfl, hr⟩ := split64 a0 hw
  clear w0 hw
  by_cases hf : r < 9218868437227405312
  · obtain ⟨n, n0, n1, n2, K⟩ := count_any r hf
    have hsub := fun w => run_float_arith (P := Try.prog) w .sub 22 .f64 (wd s r) (wd s r) 0 (by show Ieee.double.sub _ _ = _; exact self_sub s r hf)
    have z00 := h00
    obtain ⟨b, hb⟩ : ∃ b, (FloatKind.f64.format.order (wd s r) 0 == some .lt) = b := ⟨_, rfl⟩
    have hbe := order_zero s r hf b hb
    cases b
    · have hsr : s = false ∨ r = 0 := by
        cases s
        · exact .inl rfl
        · right; simp at hbe; omega
      obtain ⟨c, hc⟩ : ∃ c, (FloatKind.f64.format.order (wd s r) 4621256167635550208 == some .lt) = c := ⟨_, rfl⟩
      have hcn : c = true → n = 0 := fun h => n2 (order_nine s r hf hsr (hc.trans h))
      have K1 := Lib.hid (fun w => K s false w hb)
      clear K n2 hbe hsr hf hr
      cases c
      · clear hcn
        go_enter Try.func3, Try.ntmps3
        go_wp2_with fail
        refine (K1.out _).mono ?_
        rintro e w1 ⟨rfl, rfl⟩
        simp only [Bool.false_eq_true, if_false]
        go_wp2_with fail
        refine (K1.out _).mono ?_
        rintro e w1 ⟨rfl, rfl⟩
        simp only [Bool.false_eq_true, if_false]
        go_wp2_with fail
        go_ret
        exact ⟨ret_b (by simp), Below.refl _ _⟩
      · have hn := hcn rfl
        subst hn
        clear hcn n0 n1
        go_enter Try.func3, Try.ntmps3
        go_wp2_with fail
        refine (K1.out _).mono ?_
        rintro e w1 ⟨rfl, rfl⟩
        simp only [Bool.false_eq_true, if_false]
        go_wp2_with fail
        refine (K1.out _).mono ?_
        rintro e w1 ⟨rfl, rfl⟩
        simp only [Bool.false_eq_true, if_false]
        go_wp2_with fail
        go_ret
        exact ⟨ret_b (by simp), Below.refl _ _⟩
    · have hst : s = true := by
        cases s
        · exact absurd hbe (by simp)
        · rfl
      subst hst
      have hneg := fun w => run_neg_float Try.prog w .f64 (wd true r)
      rw [neg_wd r hr] at hneg
      have hb2 : (FloatKind.f64.format.order (wd false r) 0 == some .lt) = false := by
        have := order_zero false r hf _ rfl
        rw [this]; rfl
      obtain ⟨c, hc⟩ : ∃ c, (FloatKind.f64.format.order (wd false r) 4621256167635550208 == some .lt) = c := ⟨_, rfl⟩
      have hcn : c = true → n = 0 := fun h => n2 (order_nine false r hf (.inl rfl) (hc.trans h))
      have K1 := Lib.hid (fun w => K true true w hb)
      have K2 := Lib.hid (fun w => K false false w hb2)
      rw [wd_f] at K2 hc hb2
      clear K n2 hbe hf hr
      cases c
      · clear hcn
        go_enter Try.func3, Try.ntmps3
        go_wp2_with fail
        refine (K1.out _).mono ?_
        rintro e w1 ⟨rfl, rfl⟩
        simp only [if_true]
        go_wp2_with fail
        refine (K2.out _).mono ?_
        rintro e w1 ⟨rfl, rfl⟩
        simp only [Bool.false_eq_true, if_false]
        go_wp2_with fail
        go_ret
        exact ⟨ret_b (by simp), Below.refl _ _⟩
      · have hn := hcn rfl
        subst hn
        clear hcn n0 n1
        go_enter Try.func3, Try.ntmps3
        go_wp2_with fail
        refine (K1.out _).mono ?_
        rintro e w1 ⟨rfl, rfl⟩
        simp only [if_true]
        go_wp2_with fail
        refine (K2.out _).mono ?_
        rintro e w1 ⟨rfl, rfl⟩
        simp only [Bool.false_eq_true, if_false]
        go_wp2_with fail
        go_ret
        exact ⟨ret_b (by simp), Below.refl _ _⟩
  · have hbad := fun w => bad_run s r w (by omega) hr
    have HB := Lib.hid hbad
    clear hbad hf hr
    obtain ⟨s', q, hrun, q1, q2⟩ := HB.out w
    have hq := nan_neq s' q q1 q2
    clear q1 q2 HB
    go_enter Try.func3, Try.ntmps3
    go_wp2_with fail
    go_ret
    exact ⟨ret_b (by simp), below_drew (Below.refl _ _)⟩

/-! ### THE ROW's STEP: WRITTEN OUT: LEAVE IT -/
set_option maxRecDepth 100000 in
theorem lifted (os : Os) (started : os.Started) (H : Type) (enc : TypeId × Value → H) :
    ReturnsInHanded {} Try.checked os 3 .any (Rows.fnApproxIntCharCountSignAndRangeSpec.pre6 enc Try.prog Try.f3 Rows.fnApproxIntCharCountSignAndRangeRow.domain false) (Rows.fnApproxIntCharCountSignAndRangeSpec.post enc Try.prog Try.f3 false true false false) := by
  refine returnsInHanded_of_change (C := Try.checked) own started (by kernel_rfl) Try.func3
    (ChangeSpec.witness6 (enc := enc) (C := Try.checked) false ⟨#[], #[.float .f64 0], []⟩ 8 (by kernel_rfl) (by kernel_rfl) (by kernel_rfl) (by kernel_rfl)) ?_
  intro W base args ds gs before hval0 hW hcnd _
  have hval : ∀ (j : Nat) t v, Try.f3.params[j]? = some t → args[j]? = some v → Value.okWide Try.prog W .any base t v := hval0
  have hW' := hW
  obtain ⟨p, q, hA0, hV, rfl, hfz, hnd⟩ := hW
  have hA : DataW.TrodAll enc Try.prog W 0 (fun _ => true) true Try.f3.params.toList args.toList ds p := hA0
  rw [Try.params3] at hA hval
  obtain ⟨v0, vs0, d0, ds0, p0, q0, hargs, rfl, rfl, h0, r0⟩ := trodAll_cons hA
  obtain ⟨rfl, rfl, rfl⟩ := trodAll_nil r0
  obtain rfl : args = #[v0] := by cases args; simp_all
  obtain ⟨rfl, rfl⟩ := trodVars_none hV
  obtain ⟨a0, rfl, rfl, rfl, w0⟩ := open_float Try.underlying22 (hval 0 22 v0 rfl rfl) h0
  clear hA0 hval0
  refine (walk a0 W w0).mono fun e W' ⟨he, bel⟩ => ?_
  subst he
  exact ⟨_, rfl, _, _, _, [], _, [], hW', trodAll_mk1 (shut_bool Try.underlying4 _), (trodAll_cons_mk (shut_float Try.underlying22 w0) trodAll_mk0), rfl, bel.frame _, fun h => by cases h⟩

theorem over : Rows.fnApproxIntCharCountSignAndRangeRow.holds Try.pinned (OpenSpec.ofChange Rows.fnApproxIntCharCountSignAndRangeSpec) :=
  OpenClaim.holds_of_wide 3 Try.f3 rfl rfl rfl rfl rfl rfl rfl ⟨rfl, rfl, rfl, rfl, rfl⟩ rfl rfl rfl rfl rfl (by kernel_rfl) Try.func3 (by kernel_rfl)
    (of_decide_eq_true (by kernel_rfl)) (by unfold Func.isWrapper; first | (rw [if_pos (by decide +kernel)]; kernel_rfl) | (rw [if_neg (by decide +kernel)]; exact ⟨rfl, rfl⟩))
    (fun os started H enc _ => lifted os started H enc)

/-- THE STATEMENT -/
theorem proved : Rows.FnApproxIntCharCountSignAndRangeSaid := over
#print axioms proved
end Go.Proofs.Ytaodoehkkfkjbad.fnApproxIntCharCountSignAndRange
