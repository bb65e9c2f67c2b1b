/-
  The whole number behind a number literal; no statement of its own.
-/
import Derived.Test.YtokkndnicpgdkaaRows
import Derived.WalkKit
import Derived.ProofKit
import Derived.OpenShut
import Derived.Test.YtokkndnicpgdkaaSlW
import Derived.Test.YtokkndnicpgdkaaCbW
import Derived.Test.YtokkndnicpgdkaaLbA
import Derived.Test.YtokkndnicpgdkaaLbR
import Derived.Test.YtokkndnicpgdkaaLbE
import Derived.Test.YtokkndnicpgdkaaLbO
import Derived.Test.YtokkndnicpgdkaaFltM
import Derived.Test.YtokkndnicpgdkaaLbV
import Derived.WalkLawsBesides
import Derived.WalkSpells
import Derived.Below
import Derived.Lib.Hide
import Derived.Outline
import Derived.RegionTactic
import Derived.Deep.QuietTactic
import Derived.BigQuiet
namespace Go.Proofs.Ytokkndnicpgdkaa
open Go.ChangeShapes Go.WideShapes Go.ChangeAt Go.RowKit

set_option linter.unusedVariables false

theorem fb_lt30 (m : Nat) (hm : m < 536870912) : FloatKind.f64.format.order (fb m) 4742290407621132288 = some .lt := by
  obtain ⟨r, e, h, hv⟩ := fb_at m hm
  have h1 : FloatKind.f64.format.order (fb m) 4742290407621132288 = some (compare (sg false (val r)) (sg false (val 4742290407621132288))) := by rw [e]; exact order_wd false false r _ h (by omega)
  have hs : ∀ v : Nat, sg false v = (v : Int) := fun _ => rfl
  have hv2 : val 4742290407621132288 = 1073741824 * pw 1074 := by
    have e1 : mant 4742290407621132288 = 4503599627370496 := by decide
    have e2 : expo 4742290407621132288 = 1052 := by decide
    have hval : ∀ r, val r = mant r * pw (expo r) := fun r => rfl
    rw [hval]
    have e3 : (4503599627370496 : Nat) = pw 52 := by decide
    have e4 : (1073741824 : Nat) = pw 30 := by decide
    rw [e1, e2, e3, e4, ← pw_add, ← pw_add]
  rw [h1, hs, hs, Int.compare_eq_lt.2 ?_]
  rw [hv, hv2]
  have := Nat.mul_lt_mul_of_pos_right (show m < 1073741824 by omega) (pw_pos 1074)
  omega
theorem fb_int64 (m : Nat) (hm : m < 536870912) : floatToIntVal .f64 (fb m) .i64 = some (m : Int) := by
  obtain ⟨r, e, h, hv⟩ := fb_at m hm
  rw [e]
  unfold floatToIntVal
  have e1 : (FloatKind.f64.decode (wd false r)).toInt .zero = some (sg false (val r / pw 1074)) := toInt_wd false r h
  rw [e1, hv, Nat.mul_div_cancel _ (pw_pos 1074)]
  have hs : sg false m = (m : Int) := rfl
  have a1 : IntKind.i64.min = -9223372036854775808 := by decide
  have a2 : IntKind.i64.max = 9223372036854775807 := by decide
  rw [hs]
  have h64 : IntKind.i64.min ≤ (m : Int) ∧ (m : Int) ≤ IntKind.i64.max := by rw [a1, a2]; omega
  simp only [h64, and_self, if_true]
set_option maxRecDepth 100000 in
set_option maxHeartbeats 1000000 in
theorem num_word (w : World) (g m : Nat) (l : Int) (hm : m < 536870912) (hb : Bk w g 68 #[.float .f64 (fb m)]) : Calls Try.prog 14 #[.agg #[Num g, .int .i32 l]] w fun e w' => e = .returned (.tuple #[.int .i64 (m : Int), .bool true]) ∧ Below w.heap.size w w' := by
  have g1 := fb_lt30 m hm
  have g2 := fb_refl m hm
  have g3 := fb_int64 m hm
  have g4 : floatOfInt .f64 (m : Int) = fb m := rfl
  have cv := fun w => run_convert_float_int (P := Try.prog) w 66 2 .f64 .i64 (fb m) (m : Int) (by kernel_rfl) Try.underlying2 g3
  have nk : w.cell? ⟨g, 0, none⟩ = some (.float .f64 (fb m)) := hb.cell 0
  have zg := hb.lt
  clear hb
  go_enter Try.func14, Try.ntmps14
  go_wp2_with fail
  all_goals try (exfalso; rename_i hbad; (first | (rcases fb_ge m hm with g | g <;> simp [g] at hbad; done) | (simp at hbad; done)))
  go_ret2
  exact ⟨rfl, by repeat (with_reducible first | exact Below.refl _ _ | refine Below.alloc ?_ (by first | (simp; done) | (simp <;> omega) | omega) _)⟩

end Go.Proofs.Ytokkndnicpgdkaa
