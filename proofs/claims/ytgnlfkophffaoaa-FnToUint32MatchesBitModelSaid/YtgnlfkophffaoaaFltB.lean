/-
  Lemmas shared by several laws of this seat; no statement of their own.
-/
import Derived.Test.YtgnlfkophffaoaaRows
import Derived.WalkKit
import Derived.ProofKit
import Derived.OpenShut
import Derived.Test.YtgnlfkophffaoaaFltM
import Derived.Test.YtgnlfkophffaoaaFltW
import Derived.Test.YtgnlfkophffaoaaFltX
import Derived.Test.YtgnlfkophffaoaaFltY
import Derived.Test.YtgnlfkophffaoaaFltZ
import Derived.Test.YtgnlfkophffaoaaFltL
import Derived.WalkLawsBesides
import Derived.Laws.BitsAllLaws
import Derived.Lib.Hide
import Derived.Outline
namespace Go.Proofs.Ytgnlfkophffaoaa
open Go.ChangeShapes Go.WideShapes Go.ChangeAt Go.RowKit

set_option linter.unusedVariables false

theorem wd_exp (s : Bool) (E F r : Nat) (h2 : E ≤ 2047) (hF : F < 4503599627370496) (hr : r = E * 4503599627370496 + F) : bits .and .u64 (((wd s r : Nat) : Int) / 4503599627370496) 2047 = (E : Int) := by
  have e : ((wd s r : Nat) : Int) / 4503599627370496 = ((wd s r / 4503599627370496 : Nat) : Int) := by simp
  have hl := wd_lt s r (by omega)
  have := u64_and_nat (wd s r / 4503599627370496) 2047 (by omega) (by omega)
  rw [show ((2047 : Nat) : Int) = 2047 from rfl] at this
  rw [e, this, show (2047 : Nat) = 2 ^ 11 - 1 from rfl, Nat.and_two_pow_sub_one_eq_mod]
  unfold wd; split <;> omega
theorem wd_frac (s : Bool) (E F r : Nat) (h2 : E ≤ 2047) (hF : F < 4503599627370496) (hr : r = E * 4503599627370496 + F) : bits .or .u64 (bits .and .u64 ((wd s r : Nat) : Int) 4503599627370495) 4503599627370496 = ((4503599627370496 + F : Nat) : Int) := by
  have hl := wd_lt s r (by omega)
  have := u64_and_nat (wd s r) 4503599627370495 (by omega) (by omega)
  rw [show ((4503599627370495 : Nat) : Int) = 4503599627370495 from rfl] at this
  rw [this, show (4503599627370495 : Nat) = 2 ^ 52 - 1 from rfl, Nat.and_two_pow_sub_one_eq_mod]
  have e : wd s r % 2 ^ 52 = F := by unfold wd; split <;> omega
  rw [e]
  have := join_bits 1 F (by omega) hF
  rw [show ((1 * 4503599627370496 : Nat) : Int) = 4503599627370496 from rfl] at this
  rw [this]
theorem pw_div (m E : Nat) (h1 : 1 ≤ E) : m * pw (E - 1) / pw 1074 = if 1075 ≤ E then m * 2 ^ (E - 1075) else m / 2 ^ (1075 - E) := by
  split
  · rename_i h
    rw [show E - 1 = E - 1075 + 1074 by omega, pw_add, ← Nat.mul_assoc, Nat.mul_div_cancel _ (pw_pos _)]
    rfl
  · rename_i h
    rw [show (1074 : Nat) = (1075 - E) + (E - 1) by omega, pw_add, Nat.mul_div_mul_right _ _ (pw_pos _)]
    rfl
theorem sg_low (s : Bool) (V : Nat) : sg s V % 4294967296 = if s = true then -((V : Int) % 4294967296) % 4294967296 else (V : Int) % 4294967296 := by
  unfold sg; cases s
  · simp
  · simp; omega
theorem whole_at (s : Bool) (E F r m : Nat) (h1 : 1 ≤ E) (hF : F < 4503599627370496) (hr : r = E * 4503599627370496 + F) (hm : m = 4503599627370496 + F) : whole s r = sg s (if 1075 ≤ E then m * 2 ^ (E - 1075) else m / 2 ^ (1075 - E)) := by
  unfold whole
  rw [hr, val_at E F h1 hF, ← hm]
  exact congrArg (sg s) (pw_div m E h1)
theorem v_shl (m k : Nat) : IntKind.u64.wrap ((m : Int) * 2 ^ k) % 4294967296 = ((m * 2 ^ k : Nat) : Int) % 4294967296 := by
  rw [IntKind.wrap_u64]; push_cast; omega
theorem v_shr (m E : Nat) (h : ¬ 1075 ≤ E) : (m : Int) / 2 ^ (-((E : Int) - 1075)).toNat % 4294967296 = ((m / 2 ^ (1075 - E) : Nat) : Int) % 4294967296 := by
  rw [show (-((E : Int) - 1075)).toNat = 1075 - E by omega]; push_cast; rfl
theorem v_big (m k : Nat) (h : 32 ≤ k) : ((m * 2 ^ k : Nat) : Int) % 4294967296 = 0 := by
  have : m * 2 ^ k = m * 2 ^ (k - 32) * 4294967296 := by rw [Nat.mul_assoc, show (4294967296 : Nat) = 2 ^ 32 from by decide, ← Nat.pow_add, show k - 32 + 32 = k by omega]
  rw [this]
  generalize m * 2 ^ (k - 32) = x
  omega
theorem v_small (m k : Nat) (h : 64 ≤ k) (hm : m < 9007199254740992) : ((m / 2 ^ k : Nat) : Int) % 4294967296 = 0 := by
  have h1 : 2 ^ 64 ≤ 2 ^ k := Nat.pow_le_pow_right (by omega) h
  rw [Nat.div_eq_of_lt (by omega)]; rfl
set_option maxHeartbeats 2000000 in
set_option maxRecDepth 100000 in
theorem low_norm (s : Bool) (E F r m : Nat) (w : World) (h2 : E ≤ 2046) (h1 : 1 ≤ E) (hF : F < 4503599627370496) (hr : r = E * 4503599627370496 + F) (hm : m = 4503599627370496 + F) : Calls Try.prog 5 #[.float .f64 (wd s r)] w fun e w' => e = .returned (.int .u32 (whole s r % 4294967296)) ∧ w = w' := by
  have b1 := fun w => bits_run (wd s r) w
  have b2 := wd_exp s E F r (by omega) hF hr
  have b3 := wd_frac s E F r (by omega) hF hr
  rw [← hm] at b3
  have M2 := Lib.hid (show m < 9007199254740992 by omega)
  have W := Lib.hid (whole_at s E F r m h1 hF hr hm)
  have b4 : ((((wd s r : Nat) : Int) / 9223372036854775808) == 1) = s := by unfold wd; cases s <;> simp <;> omega
  have b5 : ((E : Int) == 2047) = false := by simp; omega
  have b6 : ((E : Int) == 0) = false := by simp; omega
  obtain ⟨Z, hZ⟩ : ∃ Z, Z = whole s r % 4294967296 := ⟨_, rfl⟩
  rw [← hZ]
  rw [W.out, sg_low] at hZ
  clear hm hr hF W
  by_cases c1 : 1075 ≤ E
  · rw [if_pos c1] at hZ
    by_cases c2 : E - 1075 < 32
    · cases s
      all_goals
        have ZE := Lib.hid hZ
        clear hZ
        go_enter Try.func5, Try.ntmps5
        go_wp2_with fail
        go_ret
        exact ⟨ret_i (by rw [ZE.out]; rw [v_shl]; rfl), rfl⟩
    · rw [v_big m (E - 1075) (by omega)] at hZ
      cases s
      all_goals
        have ZE := Lib.hid hZ
        clear hZ
        go_enter Try.func5, Try.ntmps5
        go_wp2_with fail
        go_ret
        exact ⟨ret_i (by rw [ZE.out]; rfl), rfl⟩
  · rw [if_neg c1] at hZ
    by_cases c2 : 1075 - E < 64
    · have V := Lib.hid (v_shr m E c1)
      cases s
      all_goals
        have ZE := Lib.hid hZ
        clear hZ
        go_enter Try.func5, Try.ntmps5
        go_wp2_with fail
        go_ret
        exact ⟨ret_i (by rw [ZE.out]; rw [V.out]; rfl), rfl⟩
    · rw [v_small m (1075 - E) (by omega) M2.out] at hZ
      cases s
      all_goals
        have ZE := Lib.hid hZ
        clear hZ
        go_enter Try.func5, Try.ntmps5
        go_wp2_with fail
        go_ret
        exact ⟨ret_i (by rw [ZE.out]; rfl), rfl⟩
set_option maxRecDepth 100000 in
theorem low_zero (s : Bool) (E F r : Nat) (w : World) (hE : E = 0 ∨ E = 2047) (hF : F < 4503599627370496) (hr : r = E * 4503599627370496 + F) : Calls Try.prog 5 #[.float .f64 (wd s r)] w fun e w' => e = .returned (.int .u32 0) ∧ w = w' := by
  have b1 := fun w => bits_run (wd s r) w
  have b2 := wd_exp s E F r (by omega) hF hr
  clear hr
  rcases hE with rfl | rfl
  all_goals
    go_enter Try.func5, Try.ntmps5
    go_wp2_with fail
    go_ret
    exact ⟨rfl, rfl⟩
theorem pw_mono {a b : Nat} (h : a ≤ b) : pw a ≤ pw b := Nat.pow_le_pow_right (by omega) h
theorem whole_sub (s : Bool) (F : Nat) (hF : F < 4503599627370496) : whole s F = 0 := by
  unfold whole val mant expo
  rw [if_pos hF, if_pos hF]
  have h1 : pw 52 ≤ pw 1074 := pw_mono (by omega)
  have h2 : pw 52 = 4503599627370496 := rfl
  rw [Nat.pow_zero, Nat.mul_one, Nat.div_eq_of_lt (by omega)]
  cases s <;> rfl
theorem low_fin (s : Bool) (r : Nat) (w : World) (h : r < 9218868437227405312) : Calls Try.prog 5 #[.float .f64 (wd s r)] w fun e w' => e = .returned (.int .u32 (whole s r % 4294967296)) ∧ w = w' := by
  by_cases h0 : r < 4503599627370496
  · have := low_zero s 0 r r w (.inl rfl) h0 (by omega)
    rw [whole_sub s r h0]; exact this
  · exact low_norm s (r / 4503599627370496) (r % 4503599627370496) r (4503599627370496 + r % 4503599627370496) w (by omega) (by omega) (by omega) (by omega) rfl
theorem low_bad (s : Bool) (r : Nat) (w : World) (h1 : 9218868437227405312 ≤ r) (h2 : r < 9223372036854775808) : Calls Try.prog 5 #[.float .f64 (wd s r)] w fun e w' => e = .returned (.int .u32 0) ∧ w = w' :=
  low_zero s 2047 (r - 9218868437227405312) r w (.inr rfl) (by omega) (by omega)

end Go.Proofs.Ytgnlfkophffaoaa
