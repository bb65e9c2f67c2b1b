/-
  Lemmas shared by several laws of this seat; no statement of their own.
-/
import Derived.Test.YtdjiekejkjgamadRows
import Derived.WalkKit
import Derived.ProofKit
import Derived.OpenShut
import Derived.Test.YtdjiekejkjgamadSlW
import Derived.Test.YtdjiekejkjgamadFltM
import Derived.Test.YtdjiekejkjgamadFltW
import Derived.Test.YtdjiekejkjgamadFltX
import Derived.Test.YtdjiekejkjgamadFltY
import Derived.Test.YtdjiekejkjgamadFltZ
import Derived.Test.YtdjiekejkjgamadFltL
import Derived.Test.YtdjiekejkjgamadSfE
import Derived.Test.YtdjiekejkjgamadSfT
import Derived.Test.YtdjiekejkjgamadSfS
import Derived.WalkLawsBesides
import Derived.Lib.Hide
import Derived.Outline
namespace Go.Proofs.Ytdjiekejkjgamad
open Go.ChangeShapes Go.WideShapes Go.ChangeAt Go.RowKit

set_option linter.unusedVariables false

def Res (a b : Bool) (w : World) (e : Ending) (w' : World) : Prop := e = .returned (.tuple #[.bool a, .bool b]) ∧ w = w'
set_option maxRecDepth 100000 in
theorem mod26 (p m : Bool) (x y : Nat) (w : World) : Calls Try.prog 5 #[.int .u8 26, .bool p, .float .f64 x, .bool m, .float .f64 y] w (Res true true w) := by
  cases p <;> cases m
  all_goals
    go_enter Try.func5, Try.ntmps5
    go_wp2_with fail
    go_ret2
    exact ⟨rfl, rfl⟩
set_option maxRecDepth 100000 in
theorem mod27 (p m : Bool) (x y : Nat) (w : World) : Calls Try.prog 5 #[.int .u8 27, .bool p, .float .f64 x, .bool m, .float .f64 y] w (Res true true w) := by
  cases p <;> cases m
  all_goals
    go_enter Try.func5, Try.ntmps5
    go_wp2_with fail
    go_ret2
    exact ⟨rfl, rfl⟩
set_option maxRecDepth 100000 in
theorem mod28 (p m : Bool) (x y : Nat) (w : World) : Calls Try.prog 5 #[.int .u8 28, .bool p, .float .f64 x, .bool m, .float .f64 y] w (Res true true w) := by
  cases p <;> cases m
  all_goals
    go_enter Try.func5, Try.ntmps5
    go_wp2_with fail
    go_ret2
    exact ⟨rfl, rfl⟩
set_option maxRecDepth 100000 in
theorem mod29 (p m : Bool) (x y : Nat) (w : World) : Calls Try.prog 5 #[.int .u8 29, .bool p, .float .f64 x, .bool m, .float .f64 y] w (Res true true w) := by
  cases p <;> cases m
  all_goals
    go_enter Try.func5, Try.ntmps5
    go_wp2_with fail
    go_ret2
    exact ⟨rfl, rfl⟩
set_option maxRecDepth 100000 in
theorem mod24 (p m : Bool) (x y : Nat) (w : World) : Calls Try.prog 5 #[.int .u8 24, .bool p, .float .f64 x, .bool m, .float .f64 y] w (Res true true w) := by
  cases p <;> cases m
  all_goals
    go_enter Try.func5, Try.ntmps5
    go_wp2_with fail
    go_ret2
    exact ⟨rfl, rfl⟩
set_option maxRecDepth 100000 in
theorem mod34 (p m : Bool) (x y : Nat) (w : World) : Calls Try.prog 5 #[.int .u8 34, .bool p, .float .f64 x, .bool m, .float .f64 y] w (Res true true w) := by
  cases p <;> cases m
  all_goals
    go_enter Try.func5, Try.ntmps5
    go_wp2_with fail
    go_ret2
    exact ⟨rfl, rfl⟩
set_option maxRecDepth 100000 in
theorem mod33 (p m : Bool) (x y : Nat) (w : World) : Calls Try.prog 5 #[.int .u8 33, .bool p, .float .f64 x, .bool m, .float .f64 y] w (Res true true w) := by
  cases p <;> cases m
  all_goals
    go_enter Try.func5, Try.ntmps5
    go_wp2_with fail
    go_ret2
    exact ⟨rfl, rfl⟩
set_option maxRecDepth 100000 in
theorem mod35 (p m : Bool) (x y : Nat) (w : World) : Calls Try.prog 5 #[.int .u8 35, .bool p, .float .f64 x, .bool m, .float .f64 y] w (Res true true w) := by
  cases p <;> cases m
  all_goals
    go_enter Try.func5, Try.ntmps5
    go_wp2_with fail
    go_ret2
    exact ⟨rfl, rfl⟩
set_option maxRecDepth 100000 in
theorem mod17 (p m : Bool) (x y : Nat) (w : World) : Calls Try.prog 5 #[.int .u8 17, .bool p, .float .f64 x, .bool m, .float .f64 y] w (Res true true w) := by
  cases p <;> cases m
  all_goals
    go_enter Try.func5, Try.ntmps5
    go_wp2_with fail
    go_ret2
    exact ⟨rfl, rfl⟩
set_option maxRecDepth 100000 in
theorem mod19 (p m : Bool) (x y : Nat) (w : World) : Calls Try.prog 5 #[.int .u8 19, .bool p, .float .f64 x, .bool m, .float .f64 y] w (Res true true w) := by
  cases p <;> cases m
  all_goals
    go_enter Try.func5, Try.ntmps5
    go_wp2_with fail
    go_ret2
    exact ⟨rfl, rfl⟩
set_option maxRecDepth 100000 in
theorem mod18 (p m : Bool) (x y : Nat) (w : World) : Calls Try.prog 5 #[.int .u8 18, .bool p, .float .f64 x, .bool m, .float .f64 y] w (Res true true w) := by
  cases p <;> cases m
  all_goals
    go_enter Try.func5, Try.ntmps5
    go_wp2_with fail
    go_ret2
    exact ⟨rfl, rfl⟩
set_option maxRecDepth 100000 in
theorem mod20 (p m : Bool) (x y : Nat) (w : World) : Calls Try.prog 5 #[.int .u8 20, .bool p, .float .f64 x, .bool m, .float .f64 y] w (Res true true w) := by
  cases p <;> cases m
  all_goals
    go_enter Try.func5, Try.ntmps5
    go_wp2_with fail
    go_ret2
    exact ⟨rfl, rfl⟩
set_option maxRecDepth 100000 in
theorem mod30 (p m : Bool) (x y : Nat) (w : World) : Calls Try.prog 5 #[.int .u8 30, .bool p, .float .f64 x, .bool m, .float .f64 y] w (Res true true w) := by
  cases p <;> cases m
  all_goals
    go_enter Try.func5, Try.ntmps5
    go_wp2_with fail
    go_ret2
    exact ⟨rfl, rfl⟩
set_option maxRecDepth 100000 in
theorem mod31 (p m : Bool) (x y : Nat) (w : World) : Calls Try.prog 5 #[.int .u8 31, .bool p, .float .f64 x, .bool m, .float .f64 y] w (Res true true w) := by
  cases p <;> cases m
  all_goals
    go_enter Try.func5, Try.ntmps5
    go_wp2_with fail
    go_ret2
    exact ⟨rfl, rfl⟩
set_option maxRecDepth 100000 in
theorem mod32 (p m : Bool) (x y : Nat) (w : World) : Calls Try.prog 5 #[.int .u8 32, .bool p, .float .f64 x, .bool m, .float .f64 y] w (Res true true w) := by
  cases p <;> cases m
  all_goals
    go_enter Try.func5, Try.ntmps5
    go_wp2_with fail
    go_ret2
    exact ⟨rfl, rfl⟩
set_option maxRecDepth 100000 in
theorem modOther (k : Int) (p m : Bool) (x y : Nat) (w : World) (h26 : (k == 26) = false) (h27 : (k == 27) = false) (h28 : (k == 28) = false) (h29 : (k == 29) = false) (h24 : (k == 24) = false) (h34 : (k == 34) = false) (h33 : (k == 33) = false) (h35 : (k == 35) = false) (h17 : (k == 17) = false) (h19 : (k == 19) = false) (h18 : (k == 18) = false) (h20 : (k == 20) = false) (h30 : (k == 30) = false) (h31 : (k == 31) = false) (h32 : (k == 32) = false) (h11 : (k == 11) = false) (h12 : (k == 12) = false) (h13 : (k == 13) = false) (h14 : (k == 14) = false) (h23 : (k == 23) = false) (h25 : (k == 25) = false) : Calls Try.prog 5 #[.int .u8 k, .bool p, .float .f64 x, .bool m, .float .f64 y] w (Res false true w) := by
  cases p <;> cases m
  all_goals
    go_enter Try.func5, Try.ntmps5
    go_wp2_with fail
    go_ret2
    exact ⟨rfl, rfl⟩
set_option maxRecDepth 100000 in
theorem mod11 (p m : Bool) (x y : Nat) (w : World) (a b : Bool) (k1 : Calls Try.prog 9 #[.float .f64 x, .float .f64 4751297606873776128] w (Bo a w)) (k2 : Calls Try.prog 9 #[.float .f64 y, .float .f64 4751297606873776128] w (Bo b w)) : Calls Try.prog 5 #[.int .u8 11, .bool p, .float .f64 x, .bool m, .float .f64 y] w (Res (if !p && !m then a && b else p && m) true w) := by
  have K1 := Lib.hid k1
  have K2 := Lib.hid k2
  clear k1 k2
  cases p <;> cases m
  · cases a
    · go_enter Try.func5, Try.ntmps5
      go_wp2_with fail
      refine (K1.out).mono ?_
      rintro e w1 ⟨rfl, rfl⟩
      go_wp2_with fail
      go_ret2
      exact ⟨rfl, rfl⟩
    · go_enter Try.func5, Try.ntmps5
      go_wp2_with fail
      refine (K1.out).mono ?_
      rintro e w1 ⟨rfl, rfl⟩
      go_wp2_with fail
      refine (K2.out).mono ?_
      rintro e w1 ⟨rfl, rfl⟩
      go_wp2_with fail
      go_ret2
      exact ⟨rfl, rfl⟩
  all_goals
    go_enter Try.func5, Try.ntmps5
    go_wp2_with fail
    go_ret2
    exact ⟨rfl, rfl⟩
set_option maxRecDepth 100000 in
theorem mod12 (p m : Bool) (x y : Nat) (w : World) (a b : Bool) (k1 : Calls Try.prog 9 #[.float .f64 x, .float .f64 4751297606873776128] w (Bo a w)) (k2 : Calls Try.prog 9 #[.float .f64 y, .float .f64 4751297606873776128] w (Bo b w)) : Calls Try.prog 5 #[.int .u8 12, .bool p, .float .f64 x, .bool m, .float .f64 y] w (Res (if !p && !m then a && b else false) true w) := by
  have K1 := Lib.hid k1
  have K2 := Lib.hid k2
  clear k1 k2
  cases p <;> cases m
  · cases a
    · go_enter Try.func5, Try.ntmps5
      go_wp2_with fail
      refine (K1.out).mono ?_
      rintro e w1 ⟨rfl, rfl⟩
      go_wp2_with fail
      go_ret2
      exact ⟨rfl, rfl⟩
    · go_enter Try.func5, Try.ntmps5
      go_wp2_with fail
      refine (K1.out).mono ?_
      rintro e w1 ⟨rfl, rfl⟩
      go_wp2_with fail
      refine (K2.out).mono ?_
      rintro e w1 ⟨rfl, rfl⟩
      go_wp2_with fail
      go_ret2
      exact ⟨rfl, rfl⟩
  all_goals
    go_enter Try.func5, Try.ntmps5
    go_wp2_with fail
    go_ret2
    exact ⟨rfl, rfl⟩
set_option maxRecDepth 100000 in
theorem mod13 (p m : Bool) (x y : Nat) (w : World) (a b : Bool) (k1 : Calls Try.prog 9 #[.float .f64 x, .float .f64 4643176031446892544] w (Bo a w)) (k2 : Calls Try.prog 9 #[.float .f64 y, .float .f64 4643176031446892544] w (Bo b w)) : Calls Try.prog 5 #[.int .u8 13, .bool p, .float .f64 x, .bool m, .float .f64 y] w (Res (if !p && !m then a && b else false) true w) := by
  have K1 := Lib.hid k1
  have K2 := Lib.hid k2
  clear k1 k2
  cases p <;> cases m
  · cases a
    · go_enter Try.func5, Try.ntmps5
      go_wp2_with fail
      refine (K1.out).mono ?_
      rintro e w1 ⟨rfl, rfl⟩
      go_wp2_with fail
      go_ret2
      exact ⟨rfl, rfl⟩
    · go_enter Try.func5, Try.ntmps5
      go_wp2_with fail
      refine (K1.out).mono ?_
      rintro e w1 ⟨rfl, rfl⟩
      go_wp2_with fail
      refine (K2.out).mono ?_
      rintro e w1 ⟨rfl, rfl⟩
      go_wp2_with fail
      go_ret2
      exact ⟨rfl, rfl⟩
  all_goals
    go_enter Try.func5, Try.ntmps5
    go_wp2_with fail
    go_ret2
    exact ⟨rfl, rfl⟩
set_option maxRecDepth 100000 in
theorem mod14 (p m : Bool) (x y : Nat) (w : World) : Calls Try.prog 5 #[.int .u8 14, .bool p, .float .f64 x, .bool m, .float .f64 y] w (Res (!p && !m && (FloatKind.f64.format.order y 0 == some .eq)) true w) := by
  cases p <;> cases m
  all_goals
    go_enter Try.func5, Try.ntmps5
    go_wp2_with fail
    go_ret2
    exact ⟨rfl, rfl⟩
set_option maxRecDepth 100000 in
theorem mod23n (p m : Bool) (x y : Nat) (w : World) (h : (!p && !m) = false) : Calls Try.prog 5 #[.int .u8 23, .bool p, .float .f64 x, .bool m, .float .f64 y] w (Res false true w) := by
  cases p <;> cases m
  · simp at h
  all_goals
    clear h
    go_enter Try.func5, Try.ntmps5
    go_wp2_with fail
    go_ret2
    exact ⟨rfl, rfl⟩
set_option maxRecDepth 100000 in
theorem mod25n (p m : Bool) (x y : Nat) (w : World) (h : (!p && !m) = false) : Calls Try.prog 5 #[.int .u8 25, .bool p, .float .f64 x, .bool m, .float .f64 y] w (Res false true w) := by
  cases p <;> cases m
  · simp at h
  all_goals
    clear h
    go_enter Try.func5, Try.ntmps5
    go_wp2_with fail
    go_ret2
    exact ⟨rfl, rfl⟩

end Go.Proofs.Ytdjiekejkjgamad
