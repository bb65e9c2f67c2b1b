/-
  For every float64 the law FnToUint32MatchesBitModel returns true and leaves its argument as it was; no condition.
  The frame of this text was written by the kit's program proof-skeleton.mjs for this statement; the walk and its lemmas are the prover's.
-/
import Derived.Test.YtgnlfkophffaoaaRows
import Derived.WalkKit
import Derived.ProofKit
import Derived.OpenShut
import Derived.Test.YtgnlfkophffaoaaFltM
import Derived.Test.YtgnlfkophffaoaaFltW
import Derived.Test.YtgnlfkophffaoaaFltX
import Derived.Test.YtgnlfkophffaoaaFltY
import Derived.Test.YtgnlfkophffaoaaFltZ
import Derived.Test.YtgnlfkophffaoaaFltL
import Derived.Test.YtgnlfkophffaoaaFltB
import Derived.Outline
import Derived.Lib.Hide
import Derived.ShutString
import Derived.ChangeOld
import Derived.Below
import Derived.WalkLawsBesides
import Derived.Deep.Slices
import Derived.Laws.Cover2
namespace Go.Proofs.Ytgnlfkophffaoaa.fnToUint32MatchesBitModel
open Go.ChangeShapes Go.WideShapes Go.ChangeAt Go.RowKit
open Go.ChangeMaps (open_string shut_string)
open Go.Deep (open_slice1)
set_option linter.unusedVariables false

theorem own : ownKnob Try.prog.godebug = none := by kernel_rfl
theorem laidOut : laidOutB Try.prog = true := by kernel_rfl

def U32 (n : Int) (w : World) (e : Ending) (w' : World) : Prop := e = .returned (.int .u32 n) ∧ ∃ m, w' = w.drewN m
theorem toU (x : Nat) (t z : Int) (w : World) (hz : wrap32 t % 4294967296 = z) (h : Calls Try.prog 6 #[.float .f64 x] w (I32 (wrap32 t) w)) : Calls Try.prog 4 #[.float .f64 x] w (U32 z w) := by
  have K := Lib.hid h
  have HZ := Lib.hid hz
  clear h hz
  go_enter Try.func4, Try.ntmps4
  go_wp2_with fail
  refine K.out.mono ?_
  rintro e w1 ⟨rfl, m, rfl⟩
  go_wp2_with fail
  go_ret
  exact ⟨ret_i HZ.out, m, rfl⟩
theorem split64 (a : Nat) (h : a < 18446744073709551616) : ∃ s r, a = wd s r ∧ r < 9223372036854775808 := by
  by_cases hs : a < 9223372036854775808
  · exact ⟨false, a, (wd_f a).symm, hs⟩
  · exact ⟨true, a - 9223372036854775808, by unfold wd; rw [if_pos rfl]; omega, by omega⟩
theorem both (s : Bool) (r : Nat) (hr : r < 9223372036854775808) : ∃ z, (∀ w, Calls Try.prog 4 #[.float .f64 (wd s r)] w (U32 z w)) ∧ ∀ w, Calls Try.prog 5 #[.float .f64 (wd s r)] w fun e w' => e = .returned (.int .u32 z) ∧ w = w' := by
  by_cases h : r < 9218868437227405312
  · refine ⟨whole s r % 4294967296, fun w => toU _ (whole s r) _ w (by unfold wrap32; omega) (toInt32_fin s r w h), fun w => low_fin s r w h⟩
  · refine ⟨0, fun w => toU _ 0 _ w (by unfold wrap32; omega) (by rw [show wrap32 0 = 0 by unfold wrap32; omega]; exact toInt32_bad s r w (by omega) hr), fun w => low_bad s r w (by omega) hr⟩
theorem below_drewN {B : Nat} {w w' : World} (h : Below B w w') (q : Nat) : Below B w (w'.drewN q) := ⟨h.1, h.2, h.3, h.4, h.5⟩

theorem walk (a0 : Nat) (w : World) (w0 : (Lit.float .f64 a0).wf = true) :
    Calls Try.prog 3 #[.float .f64 a0] w fun e w' => e = .returned (.bool true) ∧ Below w.heap.size w w' := by
  have hw : a0 < 18446744073709551616 := by simpa [Lit.wf] using w0
  obtain ⟨s, r, rfl, hr⟩ := split64 a0 hw
  obtain ⟨z, k1, k2⟩ := both s r hr
  have K1 := Lib.hid k1
  have K2 := Lib.hid k2
  clear k1 k2 hw w0 hr
  go_enter Try.func3, Try.ntmps3
  go_wp2_with fail
  refine (K1.out _).mono ?_
  rintro e w1 ⟨rfl, m, rfl⟩
  go_wp2_with fail
  refine (K2.out _).mono ?_
  rintro e w2 ⟨rfl, rfl⟩
  go_wp2_with fail
  go_ret
  exact ⟨ret_b (by simp), below_drewN (Below.refl _ _) _⟩

/-! ### THE ROW's STEP: WRITTEN OUT: LEAVE IT -/
set_option maxRecDepth 100000 in
theorem lifted (os : Os) (started : os.Started) (H : Type) (enc : TypeId × Value → H) :
    ReturnsInHanded {} Try.checked os 3 .any (Rows.fnToUint32MatchesBitModelSpec.pre6 enc Try.prog Try.f3 Rows.fnToUint32MatchesBitModelRow.domain false) (Rows.fnToUint32MatchesBitModelSpec.post enc Try.prog Try.f3 false true false false) := by
  refine returnsInHanded_of_change (C := Try.checked) own started (by kernel_rfl) Try.func3
    (ChangeSpec.witness6 (enc := enc) (C := Try.checked) false ⟨#[], #[.float .f64 0], []⟩ 8 (by kernel_rfl) (by kernel_rfl) (by kernel_rfl) (by kernel_rfl)) ?_
  intro W base args ds gs before hval0 hW hcnd _
  have hval : ∀ (j : Nat) t v, Try.f3.params[j]? = some t → args[j]? = some v → Value.okWide Try.prog W .any base t v := hval0
  have hW' := hW
  obtain ⟨p, q, hA0, hV, rfl, hfz, hnd⟩ := hW
  have hA : DataW.TrodAll enc Try.prog W 0 (fun _ => true) true Try.f3.params.toList args.toList ds p := hA0
  rw [Try.params3] at hA hval
  obtain ⟨v0, vs0, d0, ds0, p0, q0, hargs, rfl, rfl, h0, r0⟩ := trodAll_cons hA
  obtain ⟨rfl, rfl, rfl⟩ := trodAll_nil r0
  obtain rfl : args = #[v0] := by cases args; simp_all
  obtain ⟨rfl, rfl⟩ := trodVars_none hV
  obtain ⟨a0, rfl, rfl, rfl, w0⟩ := open_float Try.underlying22 (hval 0 22 v0 rfl rfl) h0
  clear hA0 hval0
  refine (walk a0 W w0).mono fun e W' ⟨he, bel⟩ => ?_
  subst he
  exact ⟨_, rfl, _, _, _, [], _, [], hW', trodAll_mk1 (shut_bool Try.underlying4 _), (trodAll_cons_mk (shut_float Try.underlying22 w0) trodAll_mk0), rfl, bel.frame _, fun h => by cases h⟩

theorem over : Rows.fnToUint32MatchesBitModelRow.holds Try.pinned (OpenSpec.ofChange Rows.fnToUint32MatchesBitModelSpec) :=
  OpenClaim.holds_of_wide 3 Try.f3 rfl rfl rfl rfl rfl rfl rfl ⟨rfl, rfl, rfl, rfl, rfl⟩ rfl rfl rfl rfl rfl (by kernel_rfl) Try.func3 (by kernel_rfl)
    (of_decide_eq_true (by kernel_rfl)) (by unfold Func.isWrapper; first | (rw [if_pos (by decide +kernel)]; kernel_rfl) | (rw [if_neg (by decide +kernel)]; exact ⟨rfl, rfl⟩))
    (fun os started H enc _ => lifted os started H enc)

/-- THE STATEMENT -/
theorem proved : Rows.FnToUint32MatchesBitModelSaid := over
#print axioms proved
end Go.Proofs.Ytgnlfkophffaoaa.fnToUint32MatchesBitModel
