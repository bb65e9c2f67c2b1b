/-
  Lemmas shared by several laws of this seat; no statement of their own.
-/
import Derived.Test.YtdjiekejkjgamadRows
import Derived.WalkKit
import Derived.ProofKit
import Derived.OpenShut
import Derived.Test.YtdjiekejkjgamadSlW
import Derived.Test.YtdjiekejkjgamadFltM
import Derived.Test.YtdjiekejkjgamadFltW
import Derived.Test.YtdjiekejkjgamadFltX
import Derived.Test.YtdjiekejkjgamadFltY
import Derived.Test.YtdjiekejkjgamadFltZ
import Derived.Test.YtdjiekejkjgamadFltL
import Derived.Test.YtdjiekejkjgamadSfE
import Derived.Test.YtdjiekejkjgamadSfN
import Derived.Test.YtdjiekejkjgamadSfT
import Derived.Test.YtdjiekejkjgamadSfS
import Derived.Test.YtdjiekejkjgamadSfL
import Derived.Test.YtdjiekejkjgamadSfM
import Derived.Test.YtdjiekejkjgamadSfF
import Derived.Test.YtdjiekejkjgamadSfA
import Derived.Test.YtdjiekejkjgamadSfH
import Derived.WalkLawsBesides
import Derived.Below
import Derived.Lib.Hide
import Derived.Outline
import Derived.Deep.QuietTactic
import Derived.BigQuiet
import Derived.Deep.Cut
import Derived.Deep.RegionHeld3
namespace Go.Proofs.Ytdjiekejkjgamad
open Go.ChangeShapes Go.WideShapes Go.ChangeAt Go.RowKit

set_option linter.unusedVariables false

theorem and31 (j : Nat) (hj : j ≤ 9) : bits BinOp.and .u32 (j : Int) 31 = (j : Int) := by
  obtain rfl | rfl | rfl | rfl | rfl | rfl | rfl | rfl | rfl | rfl : j = 0 ∨ j = 1 ∨ j = 2 ∨ j = 3 ∨ j = 4 ∨ j = 5 ∨ j = 6 ∨ j = 7 ∨ j = 8 ∨ j = 9 := by omega
  all_goals kernel_rfl
theorem wrap_ij (i j : Nat) (hi : i ≤ 9) (hj : j ≤ 9) : wrap32 ((i : Int) * 2 ^ j) = ((i * 2 ^ j : Nat) : Int) := by
  obtain rfl | rfl | rfl | rfl | rfl | rfl | rfl | rfl | rfl | rfl : i = 0 ∨ i = 1 ∨ i = 2 ∨ i = 3 ∨ i = 4 ∨ i = 5 ∨ i = 6 ∨ i = 7 ∨ i = 8 ∨ i = 9 := by omega
  all_goals
    obtain rfl | rfl | rfl | rfl | rfl | rfl | rfl | rfl | rfl | rfl : j = 0 ∨ j = 1 ∨ j = 2 ∨ j = 3 ∨ j = 4 ∨ j = 5 ∨ j = 6 ∨ j = 7 ∨ j = 8 ∨ j = 9 := by omega
    all_goals kernel_rfl
theorem div_ij (i j : Nat) : (i : Int) / 2 ^ j = ((i / 2 ^ j : Nat) : Int) := by simp
set_option maxRecDepth 100000 in
set_option maxHeartbeats 1000000 in
theorem fold23 (b l l' : Nat) (d d' : Value) (x y : Nat) (i j : Nat) (w : World) (h : BinAt w b d d' 23) (hbw : b < w.heap.size) (g : Leaf w l d false x) (g' : Leaf w l' d' false y) (hi : i ≤ 9) (hj : j ≤ 9)
    (c1 : ∀ w, Calls Try.prog 14 #[.float .f64 x] w (Cnt (0 + 1) w)) (c2 : ∀ w, Calls Try.prog 14 #[.float .f64 y] w (Cnt (0 + 1) w)) (i1 : ∀ w, Calls Try.prog 15 #[.float .f64 x] w (I32 (i : Int) w)) (i2 : ∀ w, Calls Try.prog 16 #[.float .f64 y] w (U32 (j : Int) w)) (c3 : Few (wrap32 ((i : Int) * 2 ^ j))) : Calls Try.prog 8 #[.pointer (some ⟨b, 0, none⟩)] w (Fo true w) := by
  have G := Lib.hid (nums_any w l l' d d' _ _ g g')
  have KK := Lib.hid (bin_kept w b d d' _ h hbw)
  obtain ⟨c0, c1', c2', c3', c4⟩ := h
  obtain ⟨n, n0, n3, c5⟩ := c3
  have C1 := Lib.hid c1
  have C2 := Lib.hid c2
  have I1 := Lib.hid i1
  have I2 := Lib.hid i2
  have C3 := Lib.hid c5
  have HA := Lib.hid (and31 j hj)
  clear c1 c2 i1 i2 c5 g g'
  go_enter Try.func8, Try.ntmps8
  go_wp2_with fail
  go_region_held3 (fun w' => w'.cell? ⟨b, 0, none⟩ = some d ∧ w'.cell? ⟨b, 1, none⟩ = some (.int .i32 0) ∧ w'.cell? ⟨b, 2, none⟩ = some d' ∧ w'.cell? ⟨b, 3, none⟩ = some (.int .i32 0)) ((refine KK.out _ ?_; (repeat (first | assumption | exact Below.refl _ _ | refine Below.drew ?_ | refine Below.alloc ?_ (by simp <;> omega) _)))) (first | (go_at_call 10; refine (G.out _ (by repeat (first | exact Below.refl _ _ | refine Below.drew ?_))).mono ?_; rintro e w1 ⟨rfl, hb⟩))
  have HB := Lib.hid hb
  clear hb
  go_wp2_with fail
  refine (C1.out _).mono ?_
  rintro e w2 ⟨rfl, rfl⟩
  go_wp2_with fail
  refine (C2.out _).mono ?_
  rintro e w2 ⟨rfl, rfl⟩
  go_wp2_with fail
  refine (I1.out _).mono ?_
  rintro e w2 ⟨rfl, m1, rfl⟩
  go_wp2_with fail
  refine (I2.out _).mono ?_
  rintro e w2 ⟨rfl, m2, rfl⟩
  have ha := HA.out
  go_wp2_with fail
  refine (C3.out _).mono ?_
  rintro e w2 ⟨rfl, rfl⟩
  go_wp2_with fail
  go_ret
  exact ⟨ret_b (by simp; omega), below_drewN' HB.out _⟩
set_option maxRecDepth 100000 in
set_option maxHeartbeats 1000000 in
theorem fold25 (b l l' : Nat) (d d' : Value) (x y : Nat) (i j : Nat) (w : World) (h : BinAt w b d d' 25) (hbw : b < w.heap.size) (g : Leaf w l d false x) (g' : Leaf w l' d' false y) (hi : i ≤ 9) (hj : j ≤ 9)
    (c1 : ∀ w, Calls Try.prog 14 #[.float .f64 x] w (Cnt (0 + 1) w)) (c2 : ∀ w, Calls Try.prog 14 #[.float .f64 y] w (Cnt (0 + 1) w)) (i1 : ∀ w, Calls Try.prog 16 #[.float .f64 x] w (U32 (i : Int) w)) (i2 : ∀ w, Calls Try.prog 16 #[.float .f64 y] w (U32 (j : Int) w)) (c3 : Few ((i : Int) / 2 ^ j)) : Calls Try.prog 8 #[.pointer (some ⟨b, 0, none⟩)] w (Fo true w) := by
  have G := Lib.hid (nums_any w l l' d d' _ _ g g')
  have KK := Lib.hid (bin_kept w b d d' _ h hbw)
  obtain ⟨c0, c1', c2', c3', c4⟩ := h
  obtain ⟨n, n0, n3, c5⟩ := c3
  have C1 := Lib.hid c1
  have C2 := Lib.hid c2
  have I1 := Lib.hid i1
  have I2 := Lib.hid i2
  have C3 := Lib.hid c5
  have HA := Lib.hid (and31 j hj)
  clear c1 c2 i1 i2 c5 g g'
  go_enter Try.func8, Try.ntmps8
  go_wp2_with fail
  go_region_held3 (fun w' => w'.cell? ⟨b, 0, none⟩ = some d ∧ w'.cell? ⟨b, 1, none⟩ = some (.int .i32 0) ∧ w'.cell? ⟨b, 2, none⟩ = some d' ∧ w'.cell? ⟨b, 3, none⟩ = some (.int .i32 0)) ((refine KK.out _ ?_; (repeat (first | assumption | exact Below.refl _ _ | refine Below.drew ?_ | refine Below.alloc ?_ (by simp <;> omega) _)))) (first | (go_at_call 10; refine (G.out _ (by repeat (first | exact Below.refl _ _ | refine Below.drew ?_))).mono ?_; rintro e w1 ⟨rfl, hb⟩))
  have HB := Lib.hid hb
  clear hb
  go_wp2_with fail
  refine (C1.out _).mono ?_
  rintro e w2 ⟨rfl, rfl⟩
  go_wp2_with fail
  refine (C2.out _).mono ?_
  rintro e w2 ⟨rfl, rfl⟩
  go_wp2_with fail
  refine (I1.out _).mono ?_
  rintro e w2 ⟨rfl, m1, rfl⟩
  go_wp2_with fail
  refine (I2.out _).mono ?_
  rintro e w2 ⟨rfl, m2, rfl⟩
  have ha := HA.out
  go_wp2_with fail
  refine (C3.out _).mono ?_
  rintro e w2 ⟨rfl, rfl⟩
  go_wp2_with fail
  go_ret
  exact ⟨ret_b (by simp; omega), below_drewN' HB.out _⟩

end Go.Proofs.Ytdjiekejkjgamad
