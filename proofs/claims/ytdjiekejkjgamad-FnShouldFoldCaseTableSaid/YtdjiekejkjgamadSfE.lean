/-
  Lemmas shared by several laws of this seat; no statement of their own.
-/
import Derived.Test.YtdjiekejkjgamadRows
import Derived.WalkKit
import Derived.ProofKit
import Derived.OpenShut
import Derived.Test.YtdjiekejkjgamadSlW
import Derived.Test.YtdjiekejkjgamadFltM
import Derived.Test.YtdjiekejkjgamadFltW
import Derived.Test.YtdjiekejkjgamadFltX
import Derived.Test.YtdjiekejkjgamadFltY
import Derived.Test.YtdjiekejkjgamadFltZ
import Derived.WalkLawsBesides
import Derived.Laws.BitsAllLaws
import Derived.Laws.Externs
import Derived.Lib.Hide
import Derived.Outline
namespace Go.Proofs.Ytdjiekejkjgamad
open Go.ChangeShapes Go.WideShapes Go.ChangeAt Go.RowKit

set_option linter.unusedVariables false

theorem ext_floor (args : Array Value) (w : World) : (callFunc 34 args).run Try.prog w = ((Extern.MathFloor.toIntegral "math.archFloor" .down args).run Try.prog w).andThen fun v w' => .ok (.value v) w' :=
  run_callFunc_extern Try.func34 (by kernel_rfl) (by kernel_rfl) (by kernel_rfl) (by kernel_rfl) args w
theorem ext_trunc (args : Array Value) (w : World) : (callFunc 19 args).run Try.prog w = ((Extern.MathFloor.toIntegral "math.archTrunc" .zero args).run Try.prog w).andThen fun v w' => .ok (.value v) w' :=
  run_callFunc_extern Try.func19 (by kernel_rfl) (by kernel_rfl) (by kernel_rfl) (by kernel_rfl) args w
theorem ext_max (args : Array Value) (w : World) : (callFunc 32 args).run Try.prog w = ((Extern.MathDim.pick "math.archMax" false .gt args).run Try.prog w).andThen fun v w' => .ok (.value v) w' :=
  run_callFunc_extern Try.func32 (by kernel_rfl) (by kernel_rfl) (by kernel_rfl) (by kernel_rfl) args w
theorem ext_log (args : Array Value) (w : World) : (callFunc 46 args).run Try.prog w = ((Extern.MathLog.archLog args).run Try.prog w).andThen fun v w' => .ok (.value v) w' :=
  run_callFunc_extern Try.func46 (by kernel_rfl) (by kernel_rfl) (by kernel_rfl) (by kernel_rfl) args w
def Flt (y : Nat) (w : World) (e : Ending) (w' : World) : Prop := e = .returned (.float .f64 y) ∧ w = w'
theorem floor_by (x y : Nat) (w : World) (h : ∀ w, (Extern.MathFloor.toIntegral "math.archFloor" .down #[.float .f64 x]).run Try.prog w = .ok (.float .f64 y) w) : Calls Try.prog 25 #[.float .f64 x] w (Flt y w) := by
  have hd : ∀ w, (callFunc 34 #[.float .f64 x]).run Try.prog w = .ok (.value (.float .f64 y)) w := fun w => by rw [ext_floor, h]; rfl
  clear h
  go_enter Try.func25, Try.ntmps25
  go_wp2_with fail
  go_ret
  exact ⟨rfl, rfl⟩
theorem trunc_by (x y : Nat) (w w1 : World) (h : (Extern.MathFloor.toIntegral "math.archTrunc" .zero #[.float .f64 x]).run Try.prog w = .ok (.float .f64 y) w1) : Calls Try.prog 11 #[.float .f64 x] w (Flt y w1) := by
  have hd : (callFunc 19 #[.float .f64 x]).run Try.prog w = .ok (.value (.float .f64 y)) w1 := by rw [ext_trunc, h]; rfl
  clear h
  go_enter Try.func11, Try.ntmps11
  go_wp2_with fail
  go_ret
  exact ⟨rfl, rfl⟩
theorem max_by (x z y : Nat) (w : World) (h : ∀ w, (Extern.MathDim.pick "math.archMax" false .gt #[.float .f64 x, .float .f64 z]).run Try.prog w = .ok (.float .f64 y) w) : Calls Try.prog 24 #[.float .f64 x, .float .f64 z] w (Flt y w) := by
  have hd : ∀ w, (callFunc 32 #[.float .f64 x, .float .f64 z]).run Try.prog w = .ok (.value (.float .f64 y)) w := fun w => by rw [ext_max, h]; rfl
  clear h
  go_enter Try.func24, Try.ntmps24
  go_wp2_with fail
  go_ret
  exact ⟨rfl, rfl⟩
theorem log_by (x y : Nat) (w : World) (h : ∀ w, (Extern.MathLog.archLog #[.float .f64 x]).run Try.prog w = .ok (.float .f64 y) w) : Calls Try.prog 43 #[.float .f64 x] w (Flt y w) := by
  have hd : ∀ w, (callFunc 46 #[.float .f64 x]).run Try.prog w = .ok (.value (.float .f64 y)) w := fun w => by rw [ext_log, h]; rfl
  clear h
  go_enter Try.func43, Try.ntmps43
  go_wp2_with fail
  go_ret
  exact ⟨rfl, rfl⟩
theorem log10s_by (x y z : Nat) (w : World) (h : ∀ w, (Extern.MathLog.archLog #[.float .f64 x]).run Try.prog w = .ok (.float .f64 y) w) (hm : Ieee.double.mul y 4601495173785380110 = some z) : Calls Try.prog 37 #[.float .f64 x] w (Flt z w) := by
  have L := Lib.hid (log_by x y w h)
  have b6 := fun w => run_float_arith (P := Try.prog) w .mul 22 .f64 y 4601495173785380110 z (by show Ieee.double.mul _ _ = _; exact hm)
  clear h hm
  go_enter Try.func37, Try.ntmps37
  go_wp2_with fail
  refine L.out.mono ?_
  rintro e w1 ⟨rfl, rfl⟩
  go_wp2_with fail
  go_ret
  exact ⟨rfl, rfl⟩
theorem log10_by (x y z : Nat) (w : World) (h : ∀ w, (Extern.MathLog.archLog #[.float .f64 x]).run Try.prog w = .ok (.float .f64 y) w) (hm : Ieee.double.mul y 4601495173785380110 = some z) : Calls Try.prog 26 #[.float .f64 x] w (Flt z w) := by
  have L := Lib.hid (log10s_by x y z w h hm)
  clear h hm
  go_enter Try.func26, Try.ntmps26
  go_wp2_with fail
  refine L.out.mono ?_
  rintro e w1 ⟨rfl, rfl⟩
  go_wp2_with fail
  go_ret
  exact ⟨rfl, rfl⟩
def Cnt (n : Int) (w : World) (e : Ending) (w' : World) : Prop := e = .returned (.int .i64 n) ∧ w = w'
theorem approx_by (s : Bool) (r y z u v : Nat) (n : Int) (w : World) (hr : r < 9223372036854775808) (hl : ∀ w, (Extern.MathLog.archLog #[.float .f64 r]).run Try.prog w = .ok (.float .f64 y) w) (hm : Ieee.double.mul y 4601495173785380110 = some z)
    (hf : ∀ w, (Extern.MathFloor.toIntegral "math.archFloor" .down #[.float .f64 z]).run Try.prog w = .ok (.float .f64 u) w) (hx : ∀ w, (Extern.MathDim.pick "math.archMax" false .gt #[.float .f64 0, .float .f64 u]).run Try.prog w = .ok (.float .f64 v) w)
    (hc : floatToIntVal .f64 v .i64 = some n) (hs : (FloatKind.f64.format.order (wd s r) 0 == some .lt) = false) (h0 : 0 ≤ n) (h1 : n ≤ 1000) : Calls Try.prog 14 #[.float .f64 (wd s r)] w (Cnt (n + 1) w) := by
  have A := Lib.hid (abs_any s r w hr)
  have L := Lib.hid (log10_by r y z w hl hm)
  have F := Lib.hid (floor_by z u w hf)
  have M := Lib.hid (max_by 0 u v w hx)
  have cv := fun w => run_convert_float_int (P := Try.prog) w 22 3 .f64 .i64 v n (by kernel_rfl) Try.underlying3 hc
  clear hl hm hf hx hr hc
  go_enter Try.func14, Try.ntmps14
  go_wp2_with fail
  refine A.out.mono ?_
  rintro e w1 ⟨rfl, rfl⟩
  go_wp2_with fail
  refine L.out.mono ?_
  rintro e w1 ⟨rfl, rfl⟩
  go_wp2_with fail
  refine F.out.mono ?_
  rintro e w1 ⟨rfl, rfl⟩
  go_wp2_with fail
  refine M.out.mono ?_
  rintro e w1 ⟨rfl, rfl⟩
  go_wp2_with fail
  go_ret
  first | exact ⟨rfl, rfl⟩ | exact ⟨ret_i (by omega), rfl⟩

end Go.Proofs.Ytdjiekejkjgamad
