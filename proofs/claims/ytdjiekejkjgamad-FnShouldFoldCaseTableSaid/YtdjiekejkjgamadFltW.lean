/-
  Lemmas shared by several laws of this seat; no statement of their own.
-/
import Derived.Test.YtdjiekejkjgamadRows
import Derived.WalkKit
import Derived.ProofKit
import Derived.OpenShut
import Derived.Test.YtdjiekejkjgamadFltM
import Derived.WalkLawsBesides
import Derived.Laws.BitsAllLaws
import Derived.Lib.Hide
import Derived.Outline
namespace Go.Proofs.Ytdjiekejkjgamad
open Go.ChangeShapes Go.WideShapes Go.ChangeAt Go.RowKit

set_option linter.unusedVariables false

theorem wd_lt (s : Bool) (r : Nat) (h : r < 9223372036854775808) : wd s r < 18446744073709551616 := by unfold wd; split <;> omega
theorem wd_mod (s : Bool) (r : Nat) (h : r < 9223372036854775808) : wd s r % 9223372036854775808 = r := by unfold wd; split <;> omega
theorem and63 (x : Nat) : x &&& 9223372036854775807 = x % 9223372036854775808 := Nat.and_two_pow_sub_one_eq_mod x 63
theorem abs_bits (s : Bool) (r : Nat) (h : r < 9223372036854775808) : bits .andNot .u64 ((wd s r : Nat) : Int) 9223372036854775808 = ((r : Nat) : Int) := by
  have := u64_andNot_nat (wd s r) 9223372036854775808 (wd_lt s r h) (by omega)
  rw [show ((9223372036854775808 : Nat) : Int) = 9223372036854775808 from rfl] at this
  rw [this, show 18446744073709551615 - 9223372036854775808 = 9223372036854775807 from rfl, and63, wd_mod s r h]
theorem bits_run (b : Nat) (w : World) : (callFunc 22 #[.float .f64 b]).run Try.prog w = .ok (.value (.int .u64 b)) w := by kernel_rfl
theorem from_run (b : Nat) (w : World) : (callFunc 21 #[.int .u64 (b : Int)]).run Try.prog w = .ok (.value (.float .f64 b)) w := by kernel_rfl
theorem abs_any (s : Bool) (r : Nat) (w : World) (h : r < 9223372036854775808) : Calls Try.prog 12 #[.float .f64 (wd s r)] w fun e w' => e = .returned (.float .f64 r) ∧ w = w' := by
  have h1 := fun w => bits_run (wd s r) w
  have h2 := fun w => from_run r w
  have h3 := abs_bits s r h
  clear h
  go_enter Try.func12, Try.ntmps12
  go_wp2_with fail
  go_ret
  exact ⟨rfl, rfl⟩
theorem nan_fin (s : Bool) (r : Nat) (w : World) (h : r < 9218868437227405312) : Calls Try.prog 27 #[.float .f64 (wd s r)] w fun e w' => e = .returned (.bool false) ∧ w = w' := by
  have e : (FloatKind.f64.format.order (wd s r) (wd s r) != some .eq) = false := by
    show (Ieee.double.order (wd s r) (wd s r) != some .eq) = false
    rw [order_wd s s r r h h]; simp
  clear h
  go_enter Try.func27, Try.ntmps27
  go_wp2_with fail
  go_ret
  exact ⟨rfl, rfl⟩
theorem wd_f (r : Nat) : wd false r = r := by unfold wd; simp
theorem order_pp (a b : Nat) (ha : a < 9218868437227405312) (hb : b < 9218868437227405312) : FloatKind.f64.format.order a b = some (compare (val a) (val b)) := by
  show Ieee.double.order a b = _
  have := order_wd false false a b ha hb
  rw [wd_f, wd_f] at this
  rw [this]
  unfold sg; simp
  rcases Nat.lt_trichotomy (val a) (val b) with h | h | h
  · rw [Nat.compare_eq_lt.2 h, Int.compare_eq_lt.2 (by omega)]
  · rw [h]; simp
  · rw [Nat.compare_eq_gt.2 h, Int.compare_eq_gt.2 (by omega)]
theorem cmp_val (a b : Nat) : compare (val a) (val b) = compare a b := by
  rcases Nat.lt_trichotomy a b with h | h | h
  · rw [Nat.compare_eq_lt.2 h, Nat.compare_eq_lt.2 (val_lt a b h)]
  · rw [h]; simp
  · rw [Nat.compare_eq_gt.2 h, Nat.compare_eq_gt.2 (val_lt b a h)]
theorem order_pos (a b : Nat) (ha : a < 9218868437227405312) (hb : b < 9218868437227405312) : FloatKind.f64.format.order a b = some (compare a b) := by rw [order_pp a b ha hb, cmp_val]
theorem inf_fin (s : Bool) (r : Nat) (w : World) (h : r < 9218868437227405312) : Calls Try.prog 28 #[.float .f64 (wd s r), .int .i64 0] w fun e w' => e = .returned (.bool false) ∧ w = w' := by
  have e : (FloatKind.f64.format.order r 9218868437227405311 == some .gt) = false := by
    rw [order_pos r _ h (by omega)]
    have : ¬ compare r 9218868437227405311 = .gt := by rw [Nat.compare_eq_gt]; omega
    simpa using this
  have A := Lib.hid (fun w => abs_any s r w (by omega))
  clear h
  go_enter Try.func28, Try.ntmps28
  go_wp2_with fail
  refine (A.out _).mono ?_
  rintro e w1 ⟨rfl, rfl⟩
  go_wp2_with fail
  go_ret
  exact ⟨rfl, rfl⟩
theorem norm_any (r : Nat) (w : World) (h : r < 9218868437227405312) (h1 : 4503599627370496 ≤ r) : Calls Try.prog 52 #[.float .f64 r] w fun e w' => e = .returned (.tuple #[.float .f64 r, .int .i64 0]) ∧ w = w' := by
  have e : (FloatKind.f64.format.order r 4503599627370496 == some .lt) = false := by
    rw [order_pos r _ h (by omega)]
    have : ¬ compare r 4503599627370496 = .lt := by rw [Nat.compare_eq_lt]; omega
    simpa using this
  have A := Lib.hid (fun w => abs_any false r w (by omega))
  rw [wd_f] at A
  clear h h1
  go_enter Try.func52, Try.ntmps52
  go_wp2_with fail
  refine (A.out _).mono ?_
  rintro e w1 ⟨rfl, rfl⟩
  go_wp2_with fail
  go_ret2
  exact ⟨rfl, rfl⟩
theorem zero_not (r : Nat) (h : r < 9218868437227405312) (h1 : 1 ≤ r) : (FloatKind.f64.format.order r 0 == some .eq) = false := by
  rw [order_pos r _ h (by omega)]
  have : ¬ compare r 0 = .eq := by rw [Nat.compare_eq_eq]; omega
  simpa using this
theorem field_and (E F : Nat) (h2 : E ≤ 2046) (hF : F < 4503599627370496) : bits .and .u64 ((E : Nat) : Int) 2047 = ((E : Nat) : Int) := by
  have := u64_and_nat E 2047 (by omega) (by omega)
  rw [show ((2047 : Nat) : Int) = 2047 from rfl] at this
  rw [this, show (2047 : Nat) = 2 ^ 11 - 1 from rfl, Nat.and_two_pow_sub_one_eq_mod, Nat.mod_eq_of_lt (by omega)]
theorem frac_bits (E F : Nat) (h2 : E ≤ 2046) (hF : F < 4503599627370496) : bits .andNot .u64 ((E * 4503599627370496 + F : Nat) : Int) 9218868437227405312 = ((F : Nat) : Int) := by
  have := u64_andNot_nat (E * 4503599627370496 + F) 9218868437227405312 (by omega) (by omega)
  rw [show ((9218868437227405312 : Nat) : Int) = 9218868437227405312 from rfl] at this
  rw [this]
  congr 1
  have e1 : (E * 4503599627370496 + F) = (E * 4503599627370496 + F) &&& 9223372036854775807 := by rw [and63]; omega
  rw [e1, Nat.and_assoc, show (9223372036854775807 &&& (18446744073709551615 - 9218868437227405312) : Nat) = 2 ^ 52 - 1 from by decide, Nat.and_two_pow_sub_one_eq_mod]
  omega
theorem join_bits (E F : Nat) (h2 : E ≤ 2046) (hF : F < 4503599627370496) : bits .or .u64 ((F : Nat) : Int) ((E * 4503599627370496 : Nat) : Int) = ((E * 4503599627370496 + F : Nat) : Int) := by
  rw [u64_or_nat F _ (by omega) (by omega), Nat.or_comm, nat_join 52 (E * 4503599627370496) F (by omega) (by omega)]

end Go.Proofs.Ytdjiekejkjgamad
