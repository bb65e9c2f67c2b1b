/-
  Lemmas shared by several laws of this seat; no statement of their own.
-/
import Derived.Test.YtdjiekejkjgamadRows
import Derived.WalkKit
import Derived.ProofKit
import Derived.OpenShut
import Derived.Test.YtdjiekejkjgamadSlW
import Derived.Test.YtdjiekejkjgamadFltM
import Derived.Test.YtdjiekejkjgamadFltW
import Derived.Test.YtdjiekejkjgamadFltX
import Derived.Test.YtdjiekejkjgamadFltY
import Derived.Test.YtdjiekejkjgamadFltZ
import Derived.Test.YtdjiekejkjgamadFltL
import Derived.Test.YtdjiekejkjgamadSfE
import Derived.Test.YtdjiekejkjgamadSfT
import Derived.Test.YtdjiekejkjgamadSfS
import Derived.Test.YtdjiekejkjgamadSfL
import Derived.WalkLawsBesides
import Derived.Below
import Derived.Lib.Hide
import Derived.Outline
import Derived.Deep.QuietTactic
import Derived.BigQuiet
import Derived.StillTailTactics
namespace Go.Proofs.Ytdjiekejkjgamad
open Go.ChangeShapes Go.WideShapes Go.ChangeAt Go.RowKit

set_option linter.unusedVariables false

def Fo (a : Bool) (w : World) (e : Ending) (w' : World) : Prop := e = .returned (.bool a) ∧ Below w.heap.size w w'
structure BinAt (w : World) (b : Nat) (d d' : Value) (k : Int) : Prop where
  c0 : w.cell? ⟨b, 0, none⟩ = some d
  c1 : w.cell? ⟨b, 1, none⟩ = some (.int .i32 0)
  c2 : w.cell? ⟨b, 2, none⟩ = some d'
  c3 : w.cell? ⟨b, 3, none⟩ = some (.int .i32 0)
  c4 : w.cell? ⟨b, 4, none⟩ = some (.int .u8 k)
set_option maxRecDepth 100000 in
theorem fold26 (b : Nat) (d d' : Value) (w : World) (h : BinAt w b d d' 26) : Calls Try.prog 8 #[.pointer (some ⟨b, 0, none⟩)] w (Fo true w) := by
  obtain ⟨c0, c1, c2, c3, c4⟩ := h
  go_enter Try.func8, Try.ntmps8
  go_wp2_with fail
  go_ret
  exact ⟨rfl, Below.refl _ _⟩
set_option maxRecDepth 100000 in
theorem fold27 (b : Nat) (d d' : Value) (w : World) (h : BinAt w b d d' 27) : Calls Try.prog 8 #[.pointer (some ⟨b, 0, none⟩)] w (Fo true w) := by
  obtain ⟨c0, c1, c2, c3, c4⟩ := h
  go_enter Try.func8, Try.ntmps8
  go_wp2_with fail
  go_ret
  exact ⟨rfl, Below.refl _ _⟩
set_option maxRecDepth 100000 in
theorem fold28 (b : Nat) (d d' : Value) (w : World) (h : BinAt w b d d' 28) : Calls Try.prog 8 #[.pointer (some ⟨b, 0, none⟩)] w (Fo true w) := by
  obtain ⟨c0, c1, c2, c3, c4⟩ := h
  go_enter Try.func8, Try.ntmps8
  go_wp2_with fail
  go_ret
  exact ⟨rfl, Below.refl _ _⟩
set_option maxRecDepth 100000 in
theorem fold29 (b : Nat) (d d' : Value) (w : World) (h : BinAt w b d d' 29) : Calls Try.prog 8 #[.pointer (some ⟨b, 0, none⟩)] w (Fo true w) := by
  obtain ⟨c0, c1, c2, c3, c4⟩ := h
  go_enter Try.func8, Try.ntmps8
  go_wp2_with fail
  go_ret
  exact ⟨rfl, Below.refl _ _⟩
set_option maxRecDepth 100000 in
theorem fold24 (b : Nat) (d d' : Value) (w : World) (h : BinAt w b d d' 24) : Calls Try.prog 8 #[.pointer (some ⟨b, 0, none⟩)] w (Fo true w) := by
  obtain ⟨c0, c1, c2, c3, c4⟩ := h
  go_enter Try.func8, Try.ntmps8
  go_wp2_with fail
  go_ret
  exact ⟨rfl, Below.refl _ _⟩
set_option maxRecDepth 100000 in
theorem fold34 (b : Nat) (d d' : Value) (w : World) (h : BinAt w b d d' 34) : Calls Try.prog 8 #[.pointer (some ⟨b, 0, none⟩)] w (Fo true w) := by
  obtain ⟨c0, c1, c2, c3, c4⟩ := h
  go_enter Try.func8, Try.ntmps8
  go_wp2_with fail
  go_ret
  exact ⟨rfl, Below.refl _ _⟩
set_option maxRecDepth 100000 in
theorem fold33 (b : Nat) (d d' : Value) (w : World) (h : BinAt w b d d' 33) : Calls Try.prog 8 #[.pointer (some ⟨b, 0, none⟩)] w (Fo true w) := by
  obtain ⟨c0, c1, c2, c3, c4⟩ := h
  go_enter Try.func8, Try.ntmps8
  go_wp2_with fail
  go_ret
  exact ⟨rfl, Below.refl _ _⟩
set_option maxRecDepth 100000 in
theorem fold35 (b : Nat) (d d' : Value) (w : World) (h : BinAt w b d d' 35) : Calls Try.prog 8 #[.pointer (some ⟨b, 0, none⟩)] w (Fo true w) := by
  obtain ⟨c0, c1, c2, c3, c4⟩ := h
  go_enter Try.func8, Try.ntmps8
  go_wp2_with fail
  go_ret
  exact ⟨rfl, Below.refl _ _⟩
set_option maxRecDepth 100000 in
theorem fold17 (b : Nat) (d d' : Value) (w : World) (h : BinAt w b d d' 17) : Calls Try.prog 8 #[.pointer (some ⟨b, 0, none⟩)] w (Fo true w) := by
  obtain ⟨c0, c1, c2, c3, c4⟩ := h
  go_enter Try.func8, Try.ntmps8
  go_wp2_with fail
  go_ret
  exact ⟨rfl, Below.refl _ _⟩
set_option maxRecDepth 100000 in
theorem fold19 (b : Nat) (d d' : Value) (w : World) (h : BinAt w b d d' 19) : Calls Try.prog 8 #[.pointer (some ⟨b, 0, none⟩)] w (Fo true w) := by
  obtain ⟨c0, c1, c2, c3, c4⟩ := h
  go_enter Try.func8, Try.ntmps8
  go_wp2_with fail
  go_ret
  exact ⟨rfl, Below.refl _ _⟩
set_option maxRecDepth 100000 in
theorem fold18 (b : Nat) (d d' : Value) (w : World) (h : BinAt w b d d' 18) : Calls Try.prog 8 #[.pointer (some ⟨b, 0, none⟩)] w (Fo true w) := by
  obtain ⟨c0, c1, c2, c3, c4⟩ := h
  go_enter Try.func8, Try.ntmps8
  go_wp2_with fail
  go_ret
  exact ⟨rfl, Below.refl _ _⟩
set_option maxRecDepth 100000 in
theorem fold20 (b : Nat) (d d' : Value) (w : World) (h : BinAt w b d d' 20) : Calls Try.prog 8 #[.pointer (some ⟨b, 0, none⟩)] w (Fo true w) := by
  obtain ⟨c0, c1, c2, c3, c4⟩ := h
  go_enter Try.func8, Try.ntmps8
  go_wp2_with fail
  go_ret
  exact ⟨rfl, Below.refl _ _⟩
set_option maxRecDepth 100000 in
theorem foldOther (k : Int) (b : Nat) (d d' : Value) (w : World) (h : BinAt w b d d' k) (h26 : (k == 26) = false) (h27 : (k == 27) = false) (h28 : (k == 28) = false) (h29 : (k == 29) = false) (h24 : (k == 24) = false) (h34 : (k == 34) = false) (h33 : (k == 33) = false) (h35 : (k == 35) = false) (h17 : (k == 17) = false) (h19 : (k == 19) = false) (h18 : (k == 18) = false) (h20 : (k == 20) = false) (h30 : (k == 30) = false) (h31 : (k == 31) = false) (h32 : (k == 32) = false) (h11 : (k == 11) = false) (h12 : (k == 12) = false) (h13 : (k == 13) = false) (h14 : (k == 14) = false) (h23 : (k == 23) = false) (h25 : (k == 25) = false) : Calls Try.prog 8 #[.pointer (some ⟨b, 0, none⟩)] w (Fo false w) := by
  obtain ⟨c0, c1, c2, c3, c4⟩ := h
  go_enter Try.func8, Try.ntmps8
  go_wp2_with fail
  go_ret
  exact ⟨rfl, Below.refl _ _⟩
set_option maxRecDepth 100000 in
theorem fold30 (b : Nat) (d d' : Value) (w : World) (h : BinAt w b d d' 30) (l l' x y : Nat) (p m : Bool) (g : Leaf w l d p x) (g' : Leaf w l' d' m y) : Calls Try.prog 8 #[.pointer (some ⟨b, 0, none⟩)] w (Fo true w) := by
  have G := Lib.hid (ipl_any w l d p x g)
  clear g g'
  obtain ⟨c0, c1, c2, c3, c4⟩ := h
  go_enter Try.func8, Try.ntmps8
  go_wp2_with fail
  refine G.out.mono ?_
  rintro e w1 ⟨rfl, rfl⟩
  go_wp2_with fail
  go_ret
  exact ⟨rfl, Below.refl _ _⟩
set_option maxRecDepth 100000 in
theorem fold31 (b : Nat) (d d' : Value) (w : World) (h : BinAt w b d d' 31) (l l' x y : Nat) (p m : Bool) (g : Leaf w l d p x) (g' : Leaf w l' d' m y) : Calls Try.prog 8 #[.pointer (some ⟨b, 0, none⟩)] w (Fo true w) := by
  have G := Lib.hid (ipl_any w l d p x g)
  clear g g'
  obtain ⟨c0, c1, c2, c3, c4⟩ := h
  go_enter Try.func8, Try.ntmps8
  go_wp2_with fail
  refine G.out.mono ?_
  rintro e w1 ⟨rfl, rfl⟩
  go_wp2_with fail
  go_ret
  exact ⟨rfl, Below.refl _ _⟩
set_option maxRecDepth 100000 in
theorem fold32 (b : Nat) (d d' : Value) (w : World) (h : BinAt w b d d' 32) (l l' x y : Nat) (p m : Bool) (g : Leaf w l d p x) (g' : Leaf w l' d' m y) : Calls Try.prog 8 #[.pointer (some ⟨b, 0, none⟩)] w (Fo true w) := by
  have G := Lib.hid (ipl_any w l d p x g)
  clear g g'
  obtain ⟨c0, c1, c2, c3, c4⟩ := h
  go_enter Try.func8, Try.ntmps8
  go_wp2_with fail
  refine G.out.mono ?_
  rintro e w1 ⟨rfl, rfl⟩
  go_wp2_with fail
  go_ret
  exact ⟨rfl, Below.refl _ _⟩

end Go.Proofs.Ytdjiekejkjgamad
