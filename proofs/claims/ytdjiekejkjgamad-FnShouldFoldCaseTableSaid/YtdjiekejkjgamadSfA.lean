/-
  Lemmas shared by several laws of this seat; no statement of their own.
-/
import Derived.Test.YtdjiekejkjgamadRows
import Derived.WalkKit
import Derived.ProofKit
import Derived.OpenShut
import Derived.Test.YtdjiekejkjgamadSlW
import Derived.Test.YtdjiekejkjgamadFltM
import Derived.Test.YtdjiekejkjgamadFltW
import Derived.Test.YtdjiekejkjgamadFltX
import Derived.Test.YtdjiekejkjgamadFltY
import Derived.Test.YtdjiekejkjgamadFltZ
import Derived.Test.YtdjiekejkjgamadFltL
import Derived.Test.YtdjiekejkjgamadSfE
import Derived.Test.YtdjiekejkjgamadSfT
import Derived.Test.YtdjiekejkjgamadSfS
import Derived.Test.YtdjiekejkjgamadSfL
import Derived.Test.YtdjiekejkjgamadSfF
import Derived.WalkLawsBesides
import Derived.Below
import Derived.Lib.Hide
import Derived.Outline
import Derived.Deep.QuietTactic
import Derived.BigQuiet
import Derived.Deep.Cut
import Derived.Deep.RegionHeld3
namespace Go.Proofs.Ytdjiekejkjgamad
open Go.ChangeShapes Go.WideShapes Go.ChangeAt Go.RowKit

set_option linter.unusedVariables false

theorem abs_ord (r L : Nat) (h : r < 9223372036854775808) (hL : L < 4751297606875873280) : (FloatKind.f64.format.order r L == some .lt) = decide (r < L) ∧ (FloatKind.f64.format.order r L == some .eq) = decide (r = L) := by
  by_cases h1 : r < 9218868437227405312
  · exact ⟨ord_lt false r L h1 (by omega) (.inl rfl), ord_eq false r L h1 (by omega) (.inl rfl)⟩
  · rw [decide_eq_false (by omega), decide_eq_false (by omega)]
    by_cases h2 : r = 9218868437227405312
    · subst h2; exact ⟨inf_ord L .lt (by decide) (by omega), inf_ord L .eq (by decide) (by omega)⟩
    · exact ⟨bad_ord false r L .lt (by omega) h, bad_ord false r L .eq (by omega) h⟩
theorem below_drewN' {B : Nat} {w w' : World} (h : Below B w w') (q : Nat) : Below B w (w'.drewN q) := ⟨h.1, h.2, h.3, h.4, h.5⟩
theorem sm_false_ig {L r : Nat} (hL : L < 4751297606875873280) (h : r < 4751297606875873280 → false = ig r) : sm L r = false := by
  unfold sm
  by_cases h1 : r ≤ L
  · rw [← h (by omega)]; simp
  · rw [decide_eq_false h1]; rfl
theorem sm_false_gt {L r : Nat} (h : L < r) : sm L r = false := by unfold sm; rw [decide_eq_false (by omega)]; rfl
theorem sm_true {L r : Nat} (hL : L < 4751297606875873280) (h : r ≤ L) (hi : r < 4751297606875873280 → true = ig r) : sm L r = true := by unfold sm; rw [← hi (by omega), decide_eq_true h]; rfl
/-- The three ways of 'x == Trunc(x) && Abs(x) <= L'. -/
def NumsR (x y : Nat) (w : World) (e : Ending) (w' : World) : Prop := e = .returned (.tuple #[.float .f64 x, .float .f64 y, .bool true]) ∧ Below w.heap.size w w'
theorem nums_any (w : World) (b b' : Nat) (d d' : Value) (x y : Nat) (h : Leaf w b d false x) (h' : Leaf w b' d' false y) (w1 : World) (hb0 : Below w.heap.size w w1) : Calls Try.prog 10 #[.agg #[d, .int .i32 0], .agg #[d', .int .i32 0]] w1 (NumsR x y w) :=
  (ens_any w1 b b' d d' false false x y (h.later hb0) (h'.later hb0)).mono fun e w' he => ⟨he.1, hb0.trans (he.2.mono hb0.size)⟩
theorem bin_kept (w : World) (b : Nat) (d d' : Value) (k : Int) (h : BinAt w b d d' k) (hb : b < w.heap.size) (w' : World) (h' : Below w.heap.size w w') : w'.cell? ⟨b, 0, none⟩ = some d ∧ w'.cell? ⟨b, 1, none⟩ = some (.int .i32 0) ∧ w'.cell? ⟨b, 2, none⟩ = some d' ∧ w'.cell? ⟨b, 3, none⟩ = some (.int .i32 0) :=
  ⟨by rw [(bcell h').1 _ _ hb]; exact h.c0, by rw [(bcell h').1 _ _ hb]; exact h.c1, by rw [(bcell h').1 _ _ hb]; exact h.c2, by rw [(bcell h').1 _ _ hb]; exact h.c3⟩
set_option maxRecDepth 100000 in
set_option maxHeartbeats 1000000 in
theorem fold12 (b l l' : Nat) (d d' : Value) (s t : Bool) (r q : Nat) (w : World) (h : BinAt w b d d' 12) (hbw : b < w.heap.size) (g : Leaf w l d false (wd s r)) (g' : Leaf w l' d' false (wd t q)) (hr : r < 9223372036854775808) (hq : q < 9223372036854775808) : Calls Try.prog 8 #[.pointer (some ⟨b, 0, none⟩)] w (Fo (sm 4751297606873776128 r && sm 4751297606873776128 q) w) := by
  have G := Lib.hid (nums_any w l l' d d' _ _ g g')
  have T1 := Lib.hid (fun w => trunc_any s r w hr)
  have T2 := Lib.hid (fun w => trunc_any t q w hq)
  have A1 := Lib.hid (fun w => abs_any s r w hr)
  have A2 := Lib.hid (fun w => abs_any t q w hq)
  obtain ⟨o1, o2⟩ := abs_ord r 4751297606873776128 hr (by omega)
  obtain ⟨o3, o4⟩ := abs_ord q 4751297606873776128 hq (by omega)
  have KK := Lib.hid (bin_kept w b d d' _ h hbw)
  obtain ⟨c0, c1, c2, c3, c4⟩ := h
  clear g g' hr hq
  obtain ⟨R, hR⟩ : ∃ R, R = (sm 4751297606873776128 r && sm 4751297606873776128 q) := ⟨_, rfl⟩
  rw [← hR]
  have HR := Lib.hid hR
  clear hR
  have O1 := Lib.hid o1
  have O2 := Lib.hid o2
  have O3 := Lib.hid o3
  have O4 := Lib.hid o4
  clear o1 o2 o3 o4
  go_enter Try.func8, Try.ntmps8
  go_wp2_with fail
  go_region_held3 (fun w' => w'.cell? ⟨b, 0, none⟩ = some d ∧ w'.cell? ⟨b, 1, none⟩ = some (.int .i32 0) ∧ w'.cell? ⟨b, 2, none⟩ = some d' ∧ w'.cell? ⟨b, 3, none⟩ = some (.int .i32 0)) ((refine KK.out _ ?_; (repeat (first | assumption | exact Below.refl _ _ | refine Below.drew ?_ | refine Below.alloc ?_ (by simp <;> omega) _)))) (first | (go_at_call 10; refine (G.out _ (by repeat (first | exact Below.refl _ _ | refine Below.drew ?_))).mono ?_; rintro e w1 ⟨rfl, hb⟩))
  have HB := Lib.hid hb
  clear hb
  go_wp2_with fail
  refine (T1.out _).mono ?_
  rintro e w2 ⟨y1, b1, n1, rfl, rfl, t1, i1⟩
  have I1 := Lib.hid i1
  clear i1
  cases b1
  · go_wp2_with fail
    go_ret
    exact ⟨ret_b (by rw [HR.out, sm_false_ig (by omega) I1.out]; rfl), below_drewN' HB.out _⟩
  go_wp2_with fail
  refine (A1.out _).mono ?_
  rintro e w2 ⟨rfl, rfl⟩
  rcases Nat.lt_trichotomy r 4751297606873776128 with g1 | g1 | g1
  rotate_left 2
  · have u1 := O1.out
    have u2 := O2.out
    rw [decide_eq_false (by omega)] at u1
    rw [decide_eq_false (by omega)] at u2
    have Z := Lib.hid (sm_false_gt g1)
    clear g1
    go_wp2_with fail
    go_ret
    exact ⟨ret_b (by rw [HR.out, Z.out]; rfl), below_drewN' HB.out _⟩
  all_goals
    have u1 := O1.out
    have u2 := O2.out
    first | (rw [decide_eq_true g1] at u1; rw [decide_eq_false (by omega)] at u2) | (rw [decide_eq_false (by omega)] at u1; rw [decide_eq_true g1] at u2)
    have Z := Lib.hid (sm_true (L := 4751297606873776128) (r := r) (by omega) (by omega) I1.out)
    have ZZ := Lib.hid (show R = sm 4751297606873776128 q by rw [HR.out, Z.out]; rfl)
    clear g1 HR Z
    go_wp2_with fail
    refine (T2.out _).mono ?_
    rintro e w2 ⟨y2, b2, n2, rfl, rfl, t2, i2⟩
    have I2 := Lib.hid i2
    clear i2
    cases b2
    · go_wp2_with fail
      go_ret
      exact ⟨ret_b (by rw [ZZ.out, sm_false_ig (by omega) I2.out]), below_drewN' HB.out _⟩
    go_wp2_with fail
    refine (A2.out _).mono ?_
    rintro e w2 ⟨rfl, rfl⟩
    rcases Nat.lt_trichotomy q 4751297606873776128 with g2 | g2 | g2
    rotate_left 2
    · have u3 := O3.out
      have u4 := O4.out
      rw [decide_eq_false (by omega)] at u3
      rw [decide_eq_false (by omega)] at u4
      have Z := Lib.hid (sm_false_gt g2)
      clear g2
      go_wp2_with fail
      go_ret
      exact ⟨ret_b (by rw [ZZ.out, Z.out]), below_drewN' HB.out _⟩
    all_goals
      have u3 := O3.out
      have u4 := O4.out
      first | (rw [decide_eq_true g2] at u3; rw [decide_eq_false (by omega)] at u4) | (rw [decide_eq_false (by omega)] at u3; rw [decide_eq_true g2] at u4)
      have Z := Lib.hid (sm_true (L := 4751297606873776128) (r := q) (by omega) (by omega) I2.out)
      clear g2
      go_wp2_with fail
      go_ret
      exact ⟨ret_b (by rw [ZZ.out, Z.out]), below_drewN' HB.out _⟩
set_option maxRecDepth 100000 in
set_option maxHeartbeats 1000000 in
theorem fold13 (b l l' : Nat) (d d' : Value) (s t : Bool) (r q : Nat) (w : World) (h : BinAt w b d d' 13) (hbw : b < w.heap.size) (g : Leaf w l d false (wd s r)) (g' : Leaf w l' d' false (wd t q)) (hr : r < 9223372036854775808) (hq : q < 9223372036854775808) : Calls Try.prog 8 #[.pointer (some ⟨b, 0, none⟩)] w (Fo (sm 4643176031446892544 r && sm 4643176031446892544 q) w) := by
  have G := Lib.hid (nums_any w l l' d d' _ _ g g')
  have T1 := Lib.hid (fun w => trunc_any s r w hr)
  have T2 := Lib.hid (fun w => trunc_any t q w hq)
  have A1 := Lib.hid (fun w => abs_any s r w hr)
  have A2 := Lib.hid (fun w => abs_any t q w hq)
  obtain ⟨o1, o2⟩ := abs_ord r 4643176031446892544 hr (by omega)
  obtain ⟨o3, o4⟩ := abs_ord q 4643176031446892544 hq (by omega)
  have KK := Lib.hid (bin_kept w b d d' _ h hbw)
  obtain ⟨c0, c1, c2, c3, c4⟩ := h
  clear g g' hr hq
  obtain ⟨R, hR⟩ : ∃ R, R = (sm 4643176031446892544 r && sm 4643176031446892544 q) := ⟨_, rfl⟩
  rw [← hR]
  have HR := Lib.hid hR
  clear hR
  have O1 := Lib.hid o1
  have O2 := Lib.hid o2
  have O3 := Lib.hid o3
  have O4 := Lib.hid o4
  clear o1 o2 o3 o4
  go_enter Try.func8, Try.ntmps8
  go_wp2_with fail
  go_region_held3 (fun w' => w'.cell? ⟨b, 0, none⟩ = some d ∧ w'.cell? ⟨b, 1, none⟩ = some (.int .i32 0) ∧ w'.cell? ⟨b, 2, none⟩ = some d' ∧ w'.cell? ⟨b, 3, none⟩ = some (.int .i32 0)) ((refine KK.out _ ?_; (repeat (first | assumption | exact Below.refl _ _ | refine Below.drew ?_ | refine Below.alloc ?_ (by simp <;> omega) _)))) (first | (go_at_call 10; refine (G.out _ (by repeat (first | exact Below.refl _ _ | refine Below.drew ?_))).mono ?_; rintro e w1 ⟨rfl, hb⟩))
  have HB := Lib.hid hb
  clear hb
  go_wp2_with fail
  refine (T1.out _).mono ?_
  rintro e w2 ⟨y1, b1, n1, rfl, rfl, t1, i1⟩
  have I1 := Lib.hid i1
  clear i1
  cases b1
  · go_wp2_with fail
    go_ret
    exact ⟨ret_b (by rw [HR.out, sm_false_ig (by omega) I1.out]; rfl), below_drewN' HB.out _⟩
  go_wp2_with fail
  refine (A1.out _).mono ?_
  rintro e w2 ⟨rfl, rfl⟩
  rcases Nat.lt_trichotomy r 4643176031446892544 with g1 | g1 | g1
  rotate_left 2
  · have u1 := O1.out
    have u2 := O2.out
    rw [decide_eq_false (by omega)] at u1
    rw [decide_eq_false (by omega)] at u2
    have Z := Lib.hid (sm_false_gt g1)
    clear g1
    go_wp2_with fail
    go_ret
    exact ⟨ret_b (by rw [HR.out, Z.out]; rfl), below_drewN' HB.out _⟩
  all_goals
    have u1 := O1.out
    have u2 := O2.out
    first | (rw [decide_eq_true g1] at u1; rw [decide_eq_false (by omega)] at u2) | (rw [decide_eq_false (by omega)] at u1; rw [decide_eq_true g1] at u2)
    have Z := Lib.hid (sm_true (L := 4643176031446892544) (r := r) (by omega) (by omega) I1.out)
    have ZZ := Lib.hid (show R = sm 4643176031446892544 q by rw [HR.out, Z.out]; rfl)
    clear g1 HR Z
    go_wp2_with fail
    refine (T2.out _).mono ?_
    rintro e w2 ⟨y2, b2, n2, rfl, rfl, t2, i2⟩
    have I2 := Lib.hid i2
    clear i2
    cases b2
    · go_wp2_with fail
      go_ret
      exact ⟨ret_b (by rw [ZZ.out, sm_false_ig (by omega) I2.out]), below_drewN' HB.out _⟩
    go_wp2_with fail
    refine (A2.out _).mono ?_
    rintro e w2 ⟨rfl, rfl⟩
    rcases Nat.lt_trichotomy q 4643176031446892544 with g2 | g2 | g2
    rotate_left 2
    · have u3 := O3.out
      have u4 := O4.out
      rw [decide_eq_false (by omega)] at u3
      rw [decide_eq_false (by omega)] at u4
      have Z := Lib.hid (sm_false_gt g2)
      clear g2
      go_wp2_with fail
      go_ret
      exact ⟨ret_b (by rw [ZZ.out, Z.out]), below_drewN' HB.out _⟩
    all_goals
      have u3 := O3.out
      have u4 := O4.out
      first | (rw [decide_eq_true g2] at u3; rw [decide_eq_false (by omega)] at u4) | (rw [decide_eq_false (by omega)] at u3; rw [decide_eq_true g2] at u4)
      have Z := Lib.hid (sm_true (L := 4643176031446892544) (r := q) (by omega) (by omega) I2.out)
      clear g2
      go_wp2_with fail
      go_ret
      exact ⟨ret_b (by rw [ZZ.out, Z.out]), below_drewN' HB.out _⟩

end Go.Proofs.Ytdjiekejkjgamad
