/-
  Lemmas shared by several laws of this seat; no statement of their own.
-/
import Derived.Test.YtdjiekejkjgamadRows
import Derived.WalkKit
import Derived.ProofKit
import Derived.OpenShut
import Derived.Test.YtdjiekejkjgamadSlW
import Derived.Test.YtdjiekejkjgamadFltM
import Derived.Test.YtdjiekejkjgamadFltW
import Derived.Test.YtdjiekejkjgamadFltX
import Derived.Test.YtdjiekejkjgamadFltY
import Derived.Test.YtdjiekejkjgamadFltZ
import Derived.Test.YtdjiekejkjgamadFltL
import Derived.Test.YtdjiekejkjgamadSfE
import Derived.Test.YtdjiekejkjgamadSfT
import Derived.Test.YtdjiekejkjgamadSfS
import Derived.Test.YtdjiekejkjgamadSfL
import Derived.Test.YtdjiekejkjgamadSfF
import Derived.Test.YtdjiekejkjgamadSfA
import Derived.WalkLawsBesides
import Derived.Below
import Derived.Lib.Hide
import Derived.Outline
import Derived.Deep.QuietTactic
import Derived.BigQuiet
import Derived.Deep.Cut
import Derived.Deep.RegionHeld3
namespace Go.Proofs.Ytdjiekejkjgamad
open Go.ChangeShapes Go.WideShapes Go.ChangeAt Go.RowKit

set_option linter.unusedVariables false

def NoNum (w : World) (e : Ending) (w' : World) : Prop := e = .returned (.tuple #[.float .f64 0, .float .f64 0, .bool false]) ∧ Below w.heap.size w w'
theorem nonum_any (w : World) (b b' : Nat) (d d' : Value) (p m : Bool) (x y : Nat) (h : Leaf w b d p x) (h' : Leaf w b' d' m y) (hn : (!p && !m) = false) (w1 : World) (hb0 : Below w.heap.size w w1) : Calls Try.prog 10 #[.agg #[d, .int .i32 0], .agg #[d', .int .i32 0]] w1 (NoNum w) :=
  (ens_any w1 b b' d d' p m x y (h.later hb0) (h'.later hb0)).mono fun e w' he => ⟨by have := he.1; rw [hn] at this; exact this, hb0.trans (he.2.mono hb0.size)⟩
set_option maxRecDepth 100000 in
theorem fold12n (b l l' : Nat) (d d' : Value) (p m : Bool) (x y : Nat) (w : World) (h : BinAt w b d d' 12) (hbw : b < w.heap.size) (g : Leaf w l d p x) (g' : Leaf w l' d' m y) (hn : (!p && !m) = false) : Calls Try.prog 8 #[.pointer (some ⟨b, 0, none⟩)] w (Fo false w) := by
  have G := Lib.hid (nonum_any w l l' d d' p m x y g g' hn)
  have KK := Lib.hid (bin_kept w b d d' _ h hbw)
  obtain ⟨c0, c1, c2, c3, c4⟩ := h
  clear g g' hn
  go_enter Try.func8, Try.ntmps8
  go_wp2_with fail
  go_region_held3 (fun w' => w'.cell? ⟨b, 0, none⟩ = some d ∧ w'.cell? ⟨b, 1, none⟩ = some (.int .i32 0) ∧ w'.cell? ⟨b, 2, none⟩ = some d' ∧ w'.cell? ⟨b, 3, none⟩ = some (.int .i32 0)) ((refine KK.out _ ?_; (repeat (first | assumption | exact Below.refl _ _ | refine Below.drew ?_ | refine Below.alloc ?_ (by simp <;> omega) _)))) (first | (go_at_call 10; refine (G.out _ (by repeat (first | exact Below.refl _ _ | refine Below.drew ?_))).mono ?_; rintro e w1 ⟨rfl, hb⟩))
  have HB := Lib.hid hb
  clear hb
  go_wp2_with fail
  go_ret
  exact ⟨rfl, HB.out⟩
set_option maxRecDepth 100000 in
theorem fold13n (b l l' : Nat) (d d' : Value) (p m : Bool) (x y : Nat) (w : World) (h : BinAt w b d d' 13) (hbw : b < w.heap.size) (g : Leaf w l d p x) (g' : Leaf w l' d' m y) (hn : (!p && !m) = false) : Calls Try.prog 8 #[.pointer (some ⟨b, 0, none⟩)] w (Fo false w) := by
  have G := Lib.hid (nonum_any w l l' d d' p m x y g g' hn)
  have KK := Lib.hid (bin_kept w b d d' _ h hbw)
  obtain ⟨c0, c1, c2, c3, c4⟩ := h
  clear g g' hn
  go_enter Try.func8, Try.ntmps8
  go_wp2_with fail
  go_region_held3 (fun w' => w'.cell? ⟨b, 0, none⟩ = some d ∧ w'.cell? ⟨b, 1, none⟩ = some (.int .i32 0) ∧ w'.cell? ⟨b, 2, none⟩ = some d' ∧ w'.cell? ⟨b, 3, none⟩ = some (.int .i32 0)) ((refine KK.out _ ?_; (repeat (first | assumption | exact Below.refl _ _ | refine Below.drew ?_ | refine Below.alloc ?_ (by simp <;> omega) _)))) (first | (go_at_call 10; refine (G.out _ (by repeat (first | exact Below.refl _ _ | refine Below.drew ?_))).mono ?_; rintro e w1 ⟨rfl, hb⟩))
  have HB := Lib.hid hb
  clear hb
  go_wp2_with fail
  go_ret
  exact ⟨rfl, HB.out⟩
set_option maxRecDepth 100000 in
theorem fold14n (b l l' : Nat) (d d' : Value) (p m : Bool) (x y : Nat) (w : World) (h : BinAt w b d d' 14) (hbw : b < w.heap.size) (g : Leaf w l d p x) (g' : Leaf w l' d' m y) (hn : (!p && !m) = false) : Calls Try.prog 8 #[.pointer (some ⟨b, 0, none⟩)] w (Fo false w) := by
  have G := Lib.hid (nonum_any w l l' d d' p m x y g g' hn)
  have KK := Lib.hid (bin_kept w b d d' _ h hbw)
  obtain ⟨c0, c1, c2, c3, c4⟩ := h
  clear g g' hn
  go_enter Try.func8, Try.ntmps8
  go_wp2_with fail
  go_region_held3 (fun w' => w'.cell? ⟨b, 0, none⟩ = some d ∧ w'.cell? ⟨b, 1, none⟩ = some (.int .i32 0) ∧ w'.cell? ⟨b, 2, none⟩ = some d' ∧ w'.cell? ⟨b, 3, none⟩ = some (.int .i32 0)) ((refine KK.out _ ?_; (repeat (first | assumption | exact Below.refl _ _ | refine Below.drew ?_ | refine Below.alloc ?_ (by simp <;> omega) _)))) (first | (go_at_call 10; refine (G.out _ (by repeat (first | exact Below.refl _ _ | refine Below.drew ?_))).mono ?_; rintro e w1 ⟨rfl, hb⟩))
  have HB := Lib.hid hb
  clear hb
  go_wp2_with fail
  go_ret
  exact ⟨rfl, HB.out⟩
set_option maxRecDepth 100000 in
theorem fold23n (b l l' : Nat) (d d' : Value) (p m : Bool) (x y : Nat) (w : World) (h : BinAt w b d d' 23) (hbw : b < w.heap.size) (g : Leaf w l d p x) (g' : Leaf w l' d' m y) (hn : (!p && !m) = false) : Calls Try.prog 8 #[.pointer (some ⟨b, 0, none⟩)] w (Fo false w) := by
  have G := Lib.hid (nonum_any w l l' d d' p m x y g g' hn)
  have KK := Lib.hid (bin_kept w b d d' _ h hbw)
  obtain ⟨c0, c1, c2, c3, c4⟩ := h
  clear g g' hn
  go_enter Try.func8, Try.ntmps8
  go_wp2_with fail
  go_region_held3 (fun w' => w'.cell? ⟨b, 0, none⟩ = some d ∧ w'.cell? ⟨b, 1, none⟩ = some (.int .i32 0) ∧ w'.cell? ⟨b, 2, none⟩ = some d' ∧ w'.cell? ⟨b, 3, none⟩ = some (.int .i32 0)) ((refine KK.out _ ?_; (repeat (first | assumption | exact Below.refl _ _ | refine Below.drew ?_ | refine Below.alloc ?_ (by simp <;> omega) _)))) (first | (go_at_call 10; refine (G.out _ (by repeat (first | exact Below.refl _ _ | refine Below.drew ?_))).mono ?_; rintro e w1 ⟨rfl, hb⟩))
  have HB := Lib.hid hb
  clear hb
  go_wp2_with fail
  go_ret
  exact ⟨rfl, HB.out⟩
set_option maxRecDepth 100000 in
theorem fold25n (b l l' : Nat) (d d' : Value) (p m : Bool) (x y : Nat) (w : World) (h : BinAt w b d d' 25) (hbw : b < w.heap.size) (g : Leaf w l d p x) (g' : Leaf w l' d' m y) (hn : (!p && !m) = false) : Calls Try.prog 8 #[.pointer (some ⟨b, 0, none⟩)] w (Fo false w) := by
  have G := Lib.hid (nonum_any w l l' d d' p m x y g g' hn)
  have KK := Lib.hid (bin_kept w b d d' _ h hbw)
  obtain ⟨c0, c1, c2, c3, c4⟩ := h
  clear g g' hn
  go_enter Try.func8, Try.ntmps8
  go_wp2_with fail
  go_region_held3 (fun w' => w'.cell? ⟨b, 0, none⟩ = some d ∧ w'.cell? ⟨b, 1, none⟩ = some (.int .i32 0) ∧ w'.cell? ⟨b, 2, none⟩ = some d' ∧ w'.cell? ⟨b, 3, none⟩ = some (.int .i32 0)) ((refine KK.out _ ?_; (repeat (first | assumption | exact Below.refl _ _ | refine Below.drew ?_ | refine Below.alloc ?_ (by simp <;> omega) _)))) (first | (go_at_call 10; refine (G.out _ (by repeat (first | exact Below.refl _ _ | refine Below.drew ?_))).mono ?_; rintro e w1 ⟨rfl, hb⟩))
  have HB := Lib.hid hb
  clear hb
  go_wp2_with fail
  go_ret
  exact ⟨rfl, HB.out⟩
set_option maxRecDepth 100000 in
theorem fold14 (b l l' : Nat) (d d' : Value) (x y : Nat) (w : World) (h : BinAt w b d d' 14) (hbw : b < w.heap.size) (g : Leaf w l d false x) (g' : Leaf w l' d' false y) : Calls Try.prog 8 #[.pointer (some ⟨b, 0, none⟩)] w (Fo (FloatKind.f64.format.order y 0 == some .eq) w) := by
  have G := Lib.hid (nums_any w l l' d d' x y g g')
  have KK := Lib.hid (bin_kept w b d d' _ h hbw)
  obtain ⟨c0, c1, c2, c3, c4⟩ := h
  clear g g'
  cases t : (FloatKind.f64.format.order y 0 == some .eq)
  all_goals
    go_enter Try.func8, Try.ntmps8
    go_wp2_with fail
    go_region_held3 (fun w' => w'.cell? ⟨b, 0, none⟩ = some d ∧ w'.cell? ⟨b, 1, none⟩ = some (.int .i32 0) ∧ w'.cell? ⟨b, 2, none⟩ = some d' ∧ w'.cell? ⟨b, 3, none⟩ = some (.int .i32 0)) ((refine KK.out _ ?_; (repeat (first | assumption | exact Below.refl _ _ | refine Below.drew ?_ | refine Below.alloc ?_ (by simp <;> omega) _)))) (first | (go_at_call 10; refine (G.out _ (by repeat (first | exact Below.refl _ _ | refine Below.drew ?_))).mono ?_; rintro e w1 ⟨rfl, hb⟩))
    have HB := Lib.hid hb
    clear hb
    go_wp2_with fail
    go_ret
    exact ⟨rfl, HB.out⟩

end Go.Proofs.Ytdjiekejkjgamad
