/-
  For every two floats and two bools the law FnValuesLookTheSameOnNumbersIsSameValue returns true and leaves its arguments as they were; no condition.
  The frame of this text was written by the kit's program proof-skeleton.mjs for this statement; the walk and its lemmas are the prover's.
-/
import Derived.Test.YtaljndnoeiocdabRows
import Derived.WalkKit
import Derived.ProofKit
import Derived.OpenShut
import Derived.Test.YtaljndnoeiocdabNumF
import Derived.Test.YtaljndnoeiocdabNumV
import Derived.WalkSpells
import Derived.ShutString
import Derived.ChangeOld
import Derived.Below
import Derived.WalkLawsBesides
import Derived.Deep.Slices
import Derived.Laws.Cover2
namespace Go.Proofs.Ytaljndnoeiocdab.fnValuesLookTheSameOnNumbersIsSameValue
open Go.ChangeShapes Go.WideShapes Go.ChangeAt Go.RowKit
open Go.ChangeMaps (open_string shut_string)
open Go.Deep (open_slice1)
set_option linter.unusedVariables false

theorem own : ownKnob Try.prog.godebug = none := by kernel_rfl
theorem laidOut : laidOutB Try.prog = true := by kernel_rfl

set_option maxRecDepth 100000 in
theorem en_right (L : Value) (p : Nat) (d : Value) (v : Bool) (w : World) (h0 : w.cell? ⟨p, 0, none⟩ = some d) (hk : Calls Try.prog 7 #[L, d] w fun e w' => e = .returned (.bool v) ∧ ∃ n, w' = w.drewN n) :
    Calls Try.prog 7 #[L, .iface 32 (.pointer (some ⟨p, 0, none⟩))] w fun e w' => e = .returned (.bool v) ∧ ∃ n, w' = w.drewN n := by
  have K := Lib.hid hk
  clear hk
  go_enter Try.func7, Try.ntmps7
  go_wp2_with fail
  refine K.out.mono ?_
  rintro e w1 ⟨rfl, n, rfl⟩
  go_wp2_with fail
  go_ret
  exact ⟨rfl, _, rfl⟩
set_option maxRecDepth 100000 in
theorem en_left (p q : Nat) (d : Value) (v : Bool) (w : World) (h0 : w.cell? ⟨p, 0, none⟩ = some d) (hk : Calls Try.prog 7 #[d, .iface 23 (.pointer (some ⟨q, 0, none⟩))] w fun e w' => e = .returned (.bool v) ∧ ∃ n, w' = w.drewN n) :
    Calls Try.prog 7 #[.iface 32 (.pointer (some ⟨p, 0, none⟩)), .iface 23 (.pointer (some ⟨q, 0, none⟩))] w fun e w' => e = .returned (.bool v) ∧ ∃ n, w' = w.drewN n := by
  have K := Lib.hid hk
  clear hk
  go_enter Try.func7, Try.ntmps7
  go_wp2_with fail
  refine K.out.mono ?_
  rintro e w1 ⟨rfl, n, rfl⟩
  go_wp2_with fail
  go_ret
  exact ⟨rfl, _, rfl⟩
/-- d is a number node of bits a in w, bare or in one inlined enum. -/
def Num (w : World) (d : Value) (a : Nat) : Prop :=
  ∃ p, w.cell? ⟨p, 0, none⟩ = some (.float .f64 a) ∧ (d = .iface 23 (.pointer (some ⟨p, 0, none⟩)) ∨ ∃ q, d = .iface 32 (.pointer (some ⟨q, 0, none⟩)) ∧ w.cell? ⟨q, 0, none⟩ = some (.iface 23 (.pointer (some ⟨p, 0, none⟩))))
theorem vl_any (w : World) (d1 d2 : Value) (a b : Nat) (h1 : Num w d1 a) (h2 : Num w d2 b) (la : a < 18446744073709551616) (lb : b < 18446744073709551616) :
    Calls Try.prog 7 #[d1, d2] w fun e w' => e = .returned (.bool (R a b)) ∧ ∃ n, w' = w.drewN n := by
  obtain ⟨p1, c1, k1⟩ := h1
  obtain ⟨p2, c2, k2⟩ := h2
  have base := nn_any p1 p2 a b w c1 c2 la lb
  have left : Calls Try.prog 7 #[d1, .iface 23 (.pointer (some ⟨p2, 0, none⟩))] w fun e w' => e = .returned (.bool (R a b)) ∧ ∃ n, w' = w.drewN n := by
    rcases k1 with rfl | ⟨q, rfl, hq⟩
    · exact base
    · exact en_left q p2 _ _ w hq base
  rcases k2 with rfl | ⟨q, rfl, hq⟩
  · exact left
  · exact en_right d1 q _ _ w hq left
theorem below_drewN {B : Nat} {w w' : World} (h : Below B w w') (q : Nat) : Below B w (w'.drewN q) := ⟨h.1, h.2, h.3, h.4, h.5⟩

set_option maxRecDepth 100000 in
set_option maxHeartbeats 2000000 in
theorem walk (a0 : Nat) (a1 : Nat) (a2 : Bool) (a3 : Bool) (w : World) (w0 : (Lit.float .f64 a0).wf = true) (w1 : (Lit.float .f64 a1).wf = true) :
    Calls Try.prog 3 #[.float .f64 a0, .float .f64 a1, .bool a2, .bool a3] w fun e w' => e = .returned (.bool true) ∧ Below w.heap.size w w' := by
  have la : a0 < 18446744073709551616 := by simp [Lit.wf] at w0; exact w0
  have lb : a1 < 18446744073709551616 := by simp [Lit.wf] at w1; exact w1
  have LA := Lib.hid la
  have LB := Lib.hid lb
  clear w0 w1 la lb
  have RC := Lib.hid (R_comm a0 a1)
  cases a2 <;> cases a3
  all_goals
    go_enter Try.func3, Try.ntmps3
    go_wp2_with fail
    refine (num_any a0 a1 _ LA.out LB.out).mono ?_
    rintro e w1 ⟨rfl, rfl⟩
    go_wp2_with fail
    refine (vl_any _ _ _ a0 a1 ?_ ?_ LA.out LB.out).mono ?_
    · first | (refine ⟨w.heap.size, ?_, .inl rfl⟩; simp [go_sem]; done) | (refine ⟨w.heap.size, ?_, .inr ⟨_, rfl, ?_⟩⟩ <;> (simp [go_sem]; done))
    · first | (refine ⟨_, ?_, .inl rfl⟩; simp [go_sem]; done) | (refine ⟨w.heap.size + 1 + 1, ?_, .inr ⟨_, rfl, ?_⟩⟩ <;> (simp [go_sem]; done)) | (refine ⟨w.heap.size + 1 + 1 + 1, ?_, .inr ⟨_, rfl, ?_⟩⟩ <;> (simp [go_sem]; done))
    rintro e w1 ⟨rfl, n1, rfl⟩
    go_wp2_with fail
    refine (vl_any _ _ _ a1 a0 ?_ ?_ LB.out LA.out).mono ?_
    · first | (refine ⟨_, ?_, .inl rfl⟩; simp [go_sem]; done) | (refine ⟨w.heap.size + 1 + 1, ?_, .inr ⟨_, rfl, ?_⟩⟩ <;> (simp [go_sem]; done)) | (refine ⟨w.heap.size + 1 + 1 + 1, ?_, .inr ⟨_, rfl, ?_⟩⟩ <;> (simp [go_sem]; done))
    · first | (refine ⟨w.heap.size, ?_, .inl rfl⟩; simp [go_sem]; done) | (refine ⟨w.heap.size, ?_, .inr ⟨_, rfl, ?_⟩⟩ <;> (simp [go_sem]; done))
    rw [← RC.out]
    rintro e w2 ⟨rfl, n2, rfl⟩
    go_wp2_with fail
    go_ret
    refine ⟨ret_true (by simp), ?_⟩
    repeat (first | exact Below.refl _ _ | apply below_drewN | refine Below.alloc ?_ (by simp <;> omega) _)

/-! ### THE ROW's STEP: WRITTEN OUT: LEAVE IT -/
set_option maxRecDepth 100000 in
theorem lifted (os : Os) (started : os.Started) (H : Type) (enc : TypeId × Value → H) :
    ReturnsInHanded {} Try.checked os 3 .any (Rows.fnValuesLookTheSameOnNumbersIsSameValueSpec.pre6 enc Try.prog Try.f3 Rows.fnValuesLookTheSameOnNumbersIsSameValueRow.domain false) (Rows.fnValuesLookTheSameOnNumbersIsSameValueSpec.post enc Try.prog Try.f3 false true false false) := by
  refine returnsInHanded_of_change (C := Try.checked) own started (by kernel_rfl) Try.func3
    (ChangeSpec.witness6 (enc := enc) (C := Try.checked) false ⟨#[], #[.float .f64 0, .float .f64 0, .bool false, .bool false], []⟩ 8 (by kernel_rfl) (by kernel_rfl) (by kernel_rfl) (by kernel_rfl)) ?_
  intro W base args ds gs before hval0 hW hcnd _
  have hval : ∀ (j : Nat) t v, Try.f3.params[j]? = some t → args[j]? = some v → Value.okWide Try.prog W .any base t v := hval0
  have hW' := hW
  obtain ⟨p, q, hA0, hV, rfl, hfz, hnd⟩ := hW
  have hA : DataW.TrodAll enc Try.prog W 0 (fun _ => true) true Try.f3.params.toList args.toList ds p := hA0
  rw [Try.params3] at hA hval
  obtain ⟨v0, vs0, d0, ds0, p0, q0, hargs, rfl, rfl, h0, r0⟩ := trodAll_cons hA
  obtain ⟨v1, vs1, d1, ds1, p1, q1, rfl, rfl, rfl, h1, r1⟩ := trodAll_cons r0
  obtain ⟨v2, vs2, d2, ds2, p2, q2, rfl, rfl, rfl, h2, r2⟩ := trodAll_cons r1
  obtain ⟨v3, vs3, d3, ds3, p3, q3, rfl, rfl, rfl, h3, r3⟩ := trodAll_cons r2
  obtain ⟨rfl, rfl, rfl⟩ := trodAll_nil r3
  obtain rfl : args = #[v0, v1, v2, v3] := by cases args; simp_all
  obtain ⟨rfl, rfl⟩ := trodVars_none hV
  obtain ⟨a0, rfl, rfl, rfl, w0⟩ := open_float Try.underlying22 (hval 0 22 v0 rfl rfl) h0
  obtain ⟨a1, rfl, rfl, rfl, w1⟩ := open_float Try.underlying22 (hval 1 22 v1 rfl rfl) h1
  obtain ⟨a2, rfl, rfl, rfl⟩ := open_bool Try.underlying4 (hval 2 4 v2 rfl rfl) h2
  obtain ⟨a3, rfl, rfl, rfl⟩ := open_bool Try.underlying4 (hval 3 4 v3 rfl rfl) h3
  clear hA0 hval0
  refine (walk a0 a1 a2 a3 W w0 w1).mono fun e W' ⟨he, bel⟩ => ?_
  subst he
  exact ⟨_, rfl, _, _, _, [], _, [], hW', trodAll_mk1 (shut_bool Try.underlying4 _), (trodAll_cons_mk (shut_float Try.underlying22 w0) (trodAll_cons_mk (shut_float Try.underlying22 w1) (trodAll_cons_mk (shut_bool Try.underlying4 _) (trodAll_cons_mk (shut_bool Try.underlying4 _) trodAll_mk0)))), rfl, bel.frame _, fun h => by cases h⟩

theorem over : Rows.fnValuesLookTheSameOnNumbersIsSameValueRow.holds Try.pinned (OpenSpec.ofChange Rows.fnValuesLookTheSameOnNumbersIsSameValueSpec) :=
  OpenClaim.holds_of_wide 3 Try.f3 rfl rfl rfl rfl rfl rfl rfl ⟨rfl, rfl, rfl, rfl, rfl⟩ rfl rfl rfl rfl rfl (by kernel_rfl) Try.func3 (by kernel_rfl)
    (of_decide_eq_true (by kernel_rfl)) (by unfold Func.isWrapper; first | (rw [if_pos (by decide +kernel)]; kernel_rfl) | (rw [if_neg (by decide +kernel)]; exact ⟨rfl, rfl⟩))
    (fun os started H enc _ => lifted os started H enc)

/-- THE STATEMENT -/
theorem proved : Rows.FnValuesLookTheSameOnNumbersIsSameValueSaid := over
#print axioms proved
end Go.Proofs.Ytaljndnoeiocdab.fnValuesLookTheSameOnNumbersIsSameValue
