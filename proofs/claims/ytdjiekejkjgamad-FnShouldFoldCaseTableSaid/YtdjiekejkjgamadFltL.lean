/-
  Lemmas shared by several laws of this seat; no statement of their own.
-/
import Derived.Test.YtdjiekejkjgamadRows
import Derived.WalkKit
import Derived.ProofKit
import Derived.OpenShut
import Derived.Test.YtdjiekejkjgamadFltM
import Derived.Test.YtdjiekejkjgamadFltW
import Derived.Test.YtdjiekejkjgamadFltX
import Derived.Test.YtdjiekejkjgamadFltY
import Derived.Test.YtdjiekejkjgamadFltZ
import Derived.WalkLawsBesides
import Derived.Laws.BitsAllLaws
import Derived.Lib.Hide
import Derived.Outline
namespace Go.Proofs.Ytdjiekejkjgamad
open Go.ChangeShapes Go.WideShapes Go.ChangeAt Go.RowKit

set_option linter.unusedVariables false

theorem read_bad (s : Bool) (r : Nat) (h1 : 9218868437227405312 ≤ r) (h2 : r < 9223372036854775808) : Ieee.double.read (wd s r) = if r = 9218868437227405312 then .infinity s else .nan s (r - 9218868437227405312) := by
  have q2 := wd_mod s r h2
  have q : (wd s r / 9223372036854775808 % 2 == 1) = s := by unfold wd; cases s <;> simp <;> omega
  unfold Ieee.Format.read
  simp only [d1, d2, d3, d4]
  rw [q2, q, if_neg (by omega), if_neg (by omega)]
theorem num_bad (n : Int) (s : Bool) (r : Nat) (g1 : -2147483648 ≤ n) (g2 : n ≤ 2147483647) (h1 : 9218868437227405312 ≤ r) (h2 : r < 9223372036854775808) : (FloatKind.f64.format.order (floatOfInt .f64 n) (wd s r) == some .eq) = false := by
  obtain ⟨t, q, e1, e2, e3⟩ := nearest_int n (by omega) (by omega)
  rw [e1]
  show ((Ieee.double.read (wd t q)).order (Ieee.double.read (wd s r)) == some .eq) = false
  rw [read_wd t q e2, read_bad s r h1 h2]
  split
  · cases s <;> simp [Ieee.Datum.order]
  · simp [Ieee.Datum.order]
theorem nan_by (x : Nat) (b : Bool) (w : World) (t : (FloatKind.f64.format.order x x != some .eq) = b) : Calls Try.prog 27 #[.float .f64 x] w fun e w' => e = .returned (.bool b) ∧ w = w' := by
  go_enter Try.func27, Try.ntmps27
  go_wp2_with fail
  go_ret
  exact ⟨rfl, rfl⟩
theorem inf_by (s : Bool) (r : Nat) (b : Bool) (w : World) (h2 : r < 9223372036854775808) (t : (FloatKind.f64.format.order r 9218868437227405311 == some .gt) = b) : Calls Try.prog 28 #[.float .f64 (wd s r), .int .i64 0] w fun e w' => e = .returned (.bool b) ∧ w = w' := by
  have A := Lib.hid (fun w => abs_any s r w h2)
  clear h2
  go_enter Try.func28, Try.ntmps28
  go_wp2_with fail
  refine (A.out _).mono ?_
  rintro e w1 ⟨rfl, rfl⟩
  go_wp2_with fail
  go_ret
  exact ⟨rfl, rfl⟩
set_option maxHeartbeats 1000000 in
theorem toInt32_bad (s : Bool) (r : Nat) (w : World) (h1 : 9218868437227405312 ≤ r) (h2 : r < 9223372036854775808) : Calls Try.prog 15 #[.float .f64 (wd s r)] w (I32 0 w) := by
  obtain ⟨n, n1, n2, hc⟩ := conv_out (wd s r) w (fun n hn => by
    have : (FloatKind.f64.decode (wd s r)) = _ := read_bad s r h1 h2
    rw [this] at hn
    split at hn <;> simp [Ieee.Datum.toInt, Ieee.Datum.integral] at hn)
  have t := num_bad n s r n1 n2 h1 h2
  by_cases hi : r = 9218868437227405312
  · have tn : (FloatKind.f64.format.order (wd s r) (wd s r) != some .eq) = false := by
      show ((Ieee.double.read (wd s r)).order (Ieee.double.read (wd s r)) != some .eq) = false
      rw [read_bad s r h1 h2, if_pos hi]; cases s <;> simp [Ieee.Datum.order]
    have ti : (FloatKind.f64.format.order r 9218868437227405311 == some .gt) = true := by subst hi; decide +kernel
    have N := Lib.hid (fun w => nan_by (wd s r) false w tn)
    have I := Lib.hid (fun w => inf_by s r true w h2 ti)
    clear h1 h2 hi tn ti
    go_enter Try.func15, Try.ntmps15
    go_wp2_with fail
    refine (N.out _).mono ?_
    rintro e w1 ⟨rfl, rfl⟩
    go_wp2_with fail
    refine (I.out _).mono ?_
    rintro e w1 ⟨rfl, rfl⟩
    go_wp2_with fail
    go_ret
    exact ⟨rfl, 1, rfl⟩
  · have tn : (FloatKind.f64.format.order (wd s r) (wd s r) != some .eq) = true := by
      show ((Ieee.double.read (wd s r)).order (Ieee.double.read (wd s r)) != some .eq) = true
      rw [read_bad s r h1 h2, if_neg hi]; simp [Ieee.Datum.order]
    have N := Lib.hid (fun w => nan_by (wd s r) true w tn)
    clear h1 h2 hi tn
    go_enter Try.func15, Try.ntmps15
    go_wp2_with fail
    refine (N.out _).mono ?_
    rintro e w1 ⟨rfl, rfl⟩
    go_wp2_with fail
    go_ret
    exact ⟨rfl, 1, rfl⟩
theorem toInt32_fin (s : Bool) (r : Nat) (w : World) (h : r < 9218868437227405312) : Calls Try.prog 15 #[.float .f64 (wd s r)] w (I32 (wrap32 (whole s r)) w) := by
  by_cases h1 : -2147483648 ≤ whole s r ∧ whole s r ≤ 2147483647
  · exact toInt32_in s r w h h1.1 h1.2
  · exact toInt32_out s r w h h1

end Go.Proofs.Ytdjiekejkjgamad
