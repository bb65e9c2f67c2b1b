/-
  A small whole number as a float and back; plain, no program.
-/
import Derived.Test.YtokkndnicpgdkaaRows
import Derived.WalkKit
import Derived.ProofKit
import Derived.OpenShut
import Derived.Test.YtokkndnicpgdkaaFltM
import Derived.Test.YtokkndnicpgdkaaLbO
import Ieee.Arith
import Derived.Laws.FloatArith
namespace Go.Proofs.Ytokkndnicpgdkaa
open Go.ChangeShapes Go.WideShapes Go.ChangeAt Go.RowKit

set_option linter.unusedVariables false

theorem fb_at (m : Nat) (hm : m < 536870912) : ∃ r, fb m = wd false r ∧ r < 9218868437227405312 ∧ val r = m * pw 1074 := by
  have e : fb m = Ieee.double.nearest (decide ((m : Int) < 0)) (m : Int).natAbs 0 := rfl
  have hd : decide ((m : Int) < 0) = false := by simp
  rw [hd, Int.natAbs_natCast] at e
  by_cases h0 : m = 0
  · subst h0
    exact ⟨0, by rw [e, near0], by omega, by unfold val mant; simp⟩
  · have hl : m.log2 < 53 := (Nat.log2_lt h0).2 (by omega)
    obtain ⟨r, h1, h2, h3⟩ := nearP false m 1074 h0 (by omega) (by omega)
    exact ⟨r, by rw [e]; exact h1, h2, h3⟩
theorem fb_refl (m : Nat) (hm : m < 536870912) : FloatKind.f64.format.order (fb m) (fb m) = some .eq := by
  obtain ⟨r, e, h, -⟩ := fb_at m hm
  rw [e]
  show Ieee.double.order _ _ = _
  rw [order_wd false false r r h h]; simp
theorem fb_ge (m : Nat) (hm : m < 536870912) : FloatKind.f64.format.order (fb m) 0 = some .gt ∨ FloatKind.f64.format.order (fb m) 0 = some .eq := by
  obtain ⟨r, e, h, hv⟩ := fb_at m hm
  have h1 : FloatKind.f64.format.order (fb m) 0 = some (compare (sg false (val r)) (sg false (val 0))) := by rw [e]; exact order_wd false false r 0 h (by omega)
  have z0 : val 0 = 0 := by unfold val mant; simp
  rw [h1, z0]
  have hs : ∀ v : Nat, sg false v = (v : Int) := fun _ => rfl
  rw [hs, hs]
  rcases Nat.eq_zero_or_pos (val r) with hz | hz
  · right; rw [hz]; rfl
  · left; rw [Int.compare_eq_gt.2 (by omega)]
theorem fb_lt (m : Nat) (hm : m < 536870912) : FloatKind.f64.format.order (fb m) 4737786807993761792 = some .lt := by
  obtain ⟨r, e, h, hv⟩ := fb_at m hm
  have h1 : FloatKind.f64.format.order (fb m) 4737786807993761792 = some (compare (sg false (val r)) (sg false (val 4737786807993761792))) := by rw [e]; exact order_wd false false r _ h (by omega)
  have hs : ∀ v : Nat, sg false v = (v : Int) := fun _ => rfl
  have hv2 : val 4737786807993761792 = 536870912 * pw 1074 := by
    have e1 : mant 4737786807993761792 = 4503599627370496 := by decide
    have e2 : expo 4737786807993761792 = 1051 := by decide
    have hval : ∀ r, val r = mant r * pw (expo r) := fun r => rfl
    rw [hval]
    have e3 : (4503599627370496 : Nat) = pw 52 := by decide
    have e4 : (536870912 : Nat) = pw 29 := by decide
    rw [e1, e2, e3, e4, ← pw_add, ← pw_add]
  rw [h1, hs, hs, Int.compare_eq_lt.2 ?_]
  rw [hv, hv2]
  have := Nat.mul_lt_mul_of_pos_right hm (pw_pos 1074)
  omega
theorem fb_int (m : Nat) (hm : m < 536870912) : floatToIntVal .f64 (fb m) .u32 = some (m : Int) := by
  obtain ⟨r, e, h, hv⟩ := fb_at m hm
  rw [e]
  unfold floatToIntVal
  have e1 : (FloatKind.f64.decode (wd false r)).toInt .zero = some (sg false (val r / pw 1074)) := toInt_wd false r h
  rw [e1, hv, Nat.mul_div_cancel _ (pw_pos 1074)]
  have hs : sg false m = (m : Int) := rfl
  have a1 : IntKind.u32.min = 0 := by decide
  have a2 : IntKind.u32.max = 4294967295 := by decide
  rw [hs]
  have h64 : IntKind.u32.min ≤ (m : Int) ∧ (m : Int) ≤ IntKind.u32.max := by rw [a1, a2]; omega
  simp only [h64, and_self, if_true]

end Go.Proofs.Ytokkndnicpgdkaa
