/-
  Lemmas shared by several laws of this seat; no statement of their own.
-/
import Derived.Test.YtdjiekejkjgamadRows
import Derived.WalkKit
import Derived.ProofKit
import Derived.OpenShut
import Derived.Test.YtdjiekejkjgamadFltM
import Derived.Test.YtdjiekejkjgamadFltW
import Derived.WalkLawsBesides
import Derived.Laws.BitsAllLaws
import Derived.Lib.Hide
import Derived.Outline
namespace Go.Proofs.Ytdjiekejkjgamad
open Go.ChangeShapes Go.WideShapes Go.ChangeAt Go.RowKit

set_option linter.unusedVariables false

theorem exp_bits (E F X : Nat) (h2 : E ≤ 2046) (hF : F < 4503599627370496) (hX : X = E * 4503599627370496 + F) : bits .and .u64 ((X : Int) / 4503599627370496) 2047 = (E : Int) := by
  have : (X : Int) / 4503599627370496 = ((E : Nat) : Int) := by omega
  rw [this]; exact field_and E F h2 hF
theorem frexp_any (E F X Y : Nat) (w : World) (h1 : 1 ≤ E) (h2 : E ≤ 2046) (hF : F < 4503599627370496) (hX : X = E * 4503599627370496 + F) (hY : Y = 4602678819172646912 + F) : Calls Try.prog 49 #[.float .f64 X] w fun e w' => e = .returned (.tuple #[.float .f64 Y, .int .i64 ((E : Int) - 1023 + 1)]) ∧ w = w' := by
  have hb : X < 9218868437227405312 := by omega
  have z := zero_not X hb (by omega)
  have I := Lib.hid (fun w => inf_fin false X w hb)
  have N := Lib.hid (fun w => nan_fin false X w hb)
  have M := Lib.hid (fun w => norm_any X w hb (by omega))
  rw [wd_f] at I N
  have b1 := fun w => bits_run X w
  have b2 := Lib.hid (frac_bits E F h2 hF)
  rw [← hX] at b2
  have b3 := b2.out
  clear hb
  have b4 := join_bits 1022 F (by omega) hF
  rw [show ((1022 * 4503599627370496 : Nat) : Int) = 4602678819172646912 from rfl, show 1022 * 4503599627370496 + F = Y by omega] at b4
  have b5 := exp_bits E F X h2 hF hX
  have b6 := fun w => from_run Y w
  clear hX hY hF b2
  go_enter Try.func49, Try.ntmps49
  go_wp2_with fail
  refine (I.out _).mono ?_
  rintro e w1 ⟨rfl, rfl⟩
  go_wp2_with fail
  refine (N.out _).mono ?_
  rintro e w1 ⟨rfl, rfl⟩
  go_wp2_with fail
  refine (M.out _).mono ?_
  rintro e w1 ⟨rfl, rfl⟩
  go_wp2_with fail
  go_ret2
  exact ⟨rfl, rfl⟩
theorem Frexp_any (E F X Y : Nat) (w : World) (h1 : 1 ≤ E) (h2 : E ≤ 2046) (hF : F < 4503599627370496) (hX : X = E * 4503599627370496 + F) (hY : Y = 4602678819172646912 + F) : Calls Try.prog 44 #[.float .f64 X] w fun e w' => e = .returned (.tuple #[.float .f64 Y, .int .i64 ((E : Int) - 1023 + 1)]) ∧ w = w' := by
  have K := Lib.hid (fun w => frexp_any E F X Y w h1 h2 hF hX hY)
  clear h1 h2 hF hX hY
  go_enter Try.func44, Try.ntmps44
  go_wp2_with fail
  refine (K.out _).mono ?_
  rintro e w1 ⟨rfl, rfl⟩
  go_wp2_with fail
  go_ret2
  exact ⟨rfl, rfl⟩
theorem ldexp_any (x : Int) (E Y : Nat) (w : World) (hx : (E : Int) = x + 1055) (h1 : 0 ≤ x) (h2 : x ≤ 991) (hY : Y = E * 4503599627370496) : Calls Try.prog 51 #[.float .f64 4751297606875873280, .int .i64 x] w fun e w' => e = .returned (.float .f64 Y) ∧ w = w' := by
  have z := zero_not 4751297606875873280 (by omega) (by omega)
  have I := Lib.hid (fun w => inf_fin false 4751297606875873280 w (by omega))
  have N := Lib.hid (fun w => nan_fin false 4751297606875873280 w (by omega))
  have M := Lib.hid (fun w => norm_any 4751297606875873280 w (by omega) (by omega))
  rw [wd_f] at I N
  have b1 := fun w => bits_run 4751297606875873280 w
  have b2 : bits .and .i64 1055 2047 = 1055 := by decide
  have b3 : bits .andNot .u64 4751297606875873280 9218868437227405312 = 0 := by decide
  have b4 : bits .or .u64 0 ((x + 32 + 1023) * 4503599627370496) = (Y : Int) := by
    rw [show (x + 32 + 1023) * 4503599627370496 = ((E * 4503599627370496 : Nat) : Int) by omega]
    have := join_bits E 0 (by omega) (by omega)
    rw [show ((0 : Nat) : Int) = 0 from rfl] at this
    rw [this]; omega
  have b5 := fun w => from_run Y w
  have b6 := fun w => run_float_arith (P := Try.prog) w .mul 22 .f64 4607182418800017408 Y Y (by show Ieee.double.mul _ _ = _; rw [hY]; exact mul_one_pow E (by omega) (by omega))
  clear hx hY
  go_enter Try.func51, Try.ntmps51
  go_wp2_with fail
  refine (I.out _).mono ?_
  rintro e w1 ⟨rfl, rfl⟩
  go_wp2_with fail
  refine (N.out _).mono ?_
  rintro e w1 ⟨rfl, rfl⟩
  go_wp2_with fail
  refine (M.out _).mono ?_
  rintro e w1 ⟨rfl, rfl⟩
  go_wp2_with fail
  go_ret
  exact ⟨rfl, rfl⟩
theorem Ldexp_any (x : Int) (E Y : Nat) (w : World) (hx : (E : Int) = x + 1055) (h1 : 0 ≤ x) (h2 : x ≤ 991) (hY : Y = E * 4503599627370496) : Calls Try.prog 45 #[.float .f64 4751297606875873280, .int .i64 x] w fun e w' => e = .returned (.float .f64 Y) ∧ w = w' := by
  have K := Lib.hid (fun w => ldexp_any x E Y w hx h1 h2 hY)
  clear h1 h2 hx hY
  go_enter Try.func45, Try.ntmps45
  go_wp2_with fail
  refine (K.out _).mono ?_
  rintro e w1 ⟨rfl, rfl⟩
  go_wp2_with fail
  go_ret
  exact ⟨rfl, rfl⟩

end Go.Proofs.Ytdjiekejkjgamad
