/-
  Lemmas shared by several laws of this seat; no statement of their own.
-/
import Derived.Test.YtdjiekejkjgamadRows
import Derived.WalkKit
import Derived.ProofKit
import Derived.OpenShut
import Derived.Test.YtdjiekejkjgamadFltM
import Derived.Test.YtdjiekejkjgamadFltW
import Derived.Test.YtdjiekejkjgamadFltX
import Derived.WalkLawsBesides
import Derived.Laws.BitsAllLaws
import Derived.Lib.Hide
import Derived.Outline
import Derived.LoopTactic
namespace Go.Proofs.Ytdjiekejkjgamad
open Go.ChangeShapes Go.WideShapes Go.ChangeAt Go.RowKit

set_option linter.unusedVariables false

theorem lead (E F : Nat) (h : 1055 ≤ E) : (4503599627370496 + F) * 2 ^ (E - 1) = pw 1106 * pw (E - 1055) + F * 2 ^ (E - 1) := by
  have e : 4503599627370496 * 2 ^ (E - 1) = pw 1106 * pw (E - 1055) := by
    rw [← pw_add, show 1106 + (E - 1055) = 52 + (E - 1) by omega, pw_add]
    rfl
  rw [Nat.add_mul, e]
theorem val_at (E F : Nat) (h1 : 1 ≤ E) (hF : F < 4503599627370496) : val (E * 4503599627370496 + F) = (4503599627370496 + F) * 2 ^ (E - 1) := by
  obtain ⟨a, b⟩ := val_norm E F h1 hF
  unfold val; rw [a, b]
def ModIs (r : Nat) (w : World) (e : Ending) (w' : World) : Prop := ∃ q, e = .returned (.float .f64 q) ∧ q < 4751297606875873280 ∧ val q = val r % pw 1106 ∧ w = w'
def flOf : Value → Nat
  | .float _ n => n
  | _ => 0
theorem val_pw (E : Nat) (h1 : 1 ≤ E) : val (E * 4503599627370496) = pw (E + 51) := by
  have := val_at E 0 h1 (by omega)
  rw [Nat.add_zero, Nat.add_zero] at this
  rw [this, show E + 51 = 52 + (E - 1) by omega, pw_add]
  rfl
theorem val_y : val 4751297606875873280 = pw 1106 := val_pw 1055 (by omega)
set_option maxHeartbeats 1000000 in
theorem mod_any (r : Nat) (w : World) (h : r < 9218868437227405312) : Calls Try.prog 39 #[.float .f64 r, .float .f64 4751297606875873280] w (ModIs r w) := by
  have z := zero_not 4751297606875873280 (by omega) (by omega)
  have I := Lib.hid (fun w => inf_fin false r w h)
  have N := Lib.hid (fun w => nan_fin false r w h)
  have N2 := Lib.hid (fun w => nan_fin false 4751297606875873280 w (by omega))
  have A := Lib.hid (fun w => abs_any false 4751297606875873280 w (by omega))
  rw [wd_f] at I N N2 A
  have FR := Lib.hid (fun w => Frexp_any 1055 0 4751297606875873280 4602678819172646912 w (by omega) (by omega) (by omega) (by omega) (by omega))
  have n0 : (FloatKind.f64.format.order r 0 == some .lt) = false := by
    rw [order_pos r _ h (by omega)]
    have : ¬ compare r 0 = .lt := by rw [Nat.compare_eq_lt]; omega
    simpa using this
  have H := Lib.hid h
  clear h
  go_enter Try.func39, Try.ntmps39
  go_wp2_with fail
  refine (I.out _).mono ?_
  rintro e w1 ⟨rfl, rfl⟩
  go_wp2_with fail
  refine (N.out _).mono ?_
  rintro e w1 ⟨rfl, rfl⟩
  go_wp2_with fail
  refine (N2.out _).mono ?_
  rintro e w1 ⟨rfl, rfl⟩
  go_wp2_with fail
  refine (A.out _).mono ?_
  rintro e w1 ⟨rfl, rfl⟩
  go_wp2_with fail
  refine (FR.out _).mono ?_
  rintro e w1 ⟨rfl, rfl⟩
  go_wp2_with fail
  go_loop [7, 8, 9] (fun t _ _ => ∃ q : Nat, t = .float .f64 q ∧ Hid (q < 9218868437227405312 ∧ val q % pw 1106 = val r % pw 1106)) (fun t _ _ => flOf t)
  case atStart => exact ⟨r, rfl, ⟨H.out, rfl⟩⟩
  case round =>
    obtain ⟨q, rfl, Q⟩ := hrel
    by_cases hq : q < 4751297606875873280
    · have t1 : (FloatKind.f64.format.order q 4751297606875873280 == some .gt) = false := by
        rw [order_pos q _ Q.out.1 (by omega)]
        have : ¬ compare q 4751297606875873280 = .gt := by rw [Nat.compare_eq_gt]; omega
        simpa using this
      have t2 : (FloatKind.f64.format.order q 4751297606875873280 == some .eq) = false := by
        rw [order_pos q _ Q.out.1 (by omega)]
        have : ¬ compare q 4751297606875873280 = .eq := by rw [Nat.compare_eq_eq]; omega
        simpa using this
      have HQ := Lib.hid hq
      clear hq
      go_wp2_with fail
      go_ret
      refine ⟨q, rfl, HQ.out, ?_, rfl⟩
      have v := val_lt q _ HQ.out
      rw [val_y] at v
      rw [← Q.out.2, Nat.mod_eq_of_lt v]
    · have hq' : 4751297606875873280 ≤ q := by omega
      have t1 : (FloatKind.f64.format.order q 4751297606875873280 == some .gt || FloatKind.f64.format.order q 4751297606875873280 == some .eq) = true := by
        rw [order_pos q _ Q.out.1 (by omega)]
        rcases Nat.lt_or_ge 4751297606875873280 q with h | h
        · rw [Nat.compare_eq_gt.2 h]; rfl
        · rw [Nat.compare_eq_eq.2 (show q = 4751297606875873280 by omega)]; rfl
      obtain ⟨E, hE⟩ : ∃ E, E = q / 4503599627370496 := ⟨_, rfl⟩
      obtain ⟨F, hF⟩ : ∃ F, F = q % 4503599627370496 := ⟨_, rfl⟩
      have qb := Q.out.1
      have g1 : 1055 ≤ E := by omega
      have g2 : E ≤ 2046 := by omega
      have g3 : F < 4503599627370496 := by omega
      have g4 : q = E * 4503599627370496 + F := by omega
      obtain ⟨q', s1, s2, s3⟩ := sub_lead E F (by omega) g2 g3
      have hs := fun w => run_float_arith (P := Try.prog) w .sub 22 .f64 q (E * 4503599627370496) q' (by show Ieee.double.sub _ _ = _; rw [g4]; exact s1)
      obtain ⟨Y, hY⟩ : ∃ Y, Y = E * 4503599627370496 := ⟨_, rfl⟩
      rw [← hY] at hs
      have FQ := Lib.hid (fun w => Frexp_any E F q (4602678819172646912 + F) w (by omega) g2 g3 g4 rfl)
      have LD := Lib.hid (fun w => Ldexp_any ((E : Int) - 1023 + 1 - 33) E Y w (by omega) (by omega) (by omega) hY)
      have vq : val q = pw 1106 * pw (E - 1055) + val q' := by rw [g4, val_at E F (by omega) g3, lead E F g1, s3]
      have lt : q' < q := (val_lt_iff q' q).1 (by rw [vq]; have := Nat.mul_pos (pw_pos 1106) (pw_pos (E - 1055)); omega)
      have R := Lib.hid (show q' < 9218868437227405312 ∧ val q' % pw 1106 = val r % pw 1106 from ⟨s2, by rw [← Q.out.2, vq, Nat.mul_add_mod]⟩)
      have LT := Lib.hid lt
      have n1 : (FloatKind.f64.format.order (4602678819172646912 + F) 4602678819172646912 == some .lt) = false := by
        rw [order_pos _ _ (by omega) (by omega)]
        have : ¬ compare (4602678819172646912 + F) 4602678819172646912 = .lt := by rw [Nat.compare_eq_lt]; omega
        simpa using this
      clear s1 s2 s3 vq lt hE hF g4 hY hq hq' qb g3
      go_wp2_with fail
      refine (FQ.out _).mono ?_
      rintro e w1 ⟨rfl, rfl⟩
      go_wp2_with fail
      refine (LD.out _).mono ?_
      rintro e w1 ⟨rfl, rfl⟩
      go_wp2_with fail
      go_round
      case rel => exact ⟨q', rfl, R.out⟩
      case measure => exact LT.out
def ModIs' (r : Nat) (w : World) (e : Ending) (w' : World) : Prop := ModIs r w e w'
theorem Mod_any (r : Nat) (w : World) (h : r < 9218868437227405312) : Calls Try.prog 29 #[.float .f64 r, .float .f64 4751297606875873280] w (ModIs' r w) := by
  have K := Lib.hid (fun w => mod_any r w h)
  clear h
  go_enter Try.func29, Try.ntmps29
  go_wp2_with fail
  refine (K.out _).mono ?_
  rintro e w1 ⟨q, rfl, h1, h2, rfl⟩
  have H := Lib.hid h2
  have H1 := Lib.hid h1
  clear h1 h2
  go_wp2_with fail
  go_ret
  exact ⟨q, rfl, H1.out, H.out, rfl⟩

end Go.Proofs.Ytdjiekejkjgamad
