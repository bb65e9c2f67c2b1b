/-
  The calls of the count, walked with what they answer as letters; no statement of its own.
-/
import Derived.Test.YtaodoehkkfkjbadRows
import Derived.WalkKit
import Derived.ProofKit
import Derived.OpenShut
import Derived.Test.YtaodoehkkfkjbadFltM
import Derived.Test.YtaodoehkkfkjbadLgA
import Derived.Test.YtaodoehkkfkjbadLgB
import Derived.Test.YtaodoehkkfkjbadLgC
import Derived.Test.YtaodoehkkfkjbadLgD
import Derived.WalkLawsBesides
import Derived.Laws.BitsAllLaws
import Derived.Laws.Externs
import Derived.Laws.FloatArith
import Derived.Lib.Hide
import Derived.Outline
namespace Go.Proofs.Ytaodoehkkfkjbad
open Go.ChangeShapes Go.WideShapes Go.ChangeAt Go.RowKit

set_option linter.unusedVariables false

theorem wd_lt (s : Bool) (r : Nat) (h : r < 9223372036854775808) : wd s r < 18446744073709551616 := by unfold wd; split <;> omega
theorem wd_mod (s : Bool) (r : Nat) (h : r < 9223372036854775808) : wd s r % 9223372036854775808 = r := by unfold wd; split <;> omega
theorem and63 (x : Nat) : x &&& 9223372036854775807 = x % 9223372036854775808 := Nat.and_two_pow_sub_one_eq_mod x 63
theorem abs_bits (s : Bool) (r : Nat) (h : r < 9223372036854775808) : bits .andNot .u64 ((wd s r : Nat) : Int) 9223372036854775808 = ((r : Nat) : Int) := by
  have := u64_andNot_nat (wd s r) 9223372036854775808 (wd_lt s r h) (by omega)
  rw [show ((9223372036854775808 : Nat) : Int) = 9223372036854775808 from rfl] at this
  rw [this, show 18446744073709551615 - 9223372036854775808 = 9223372036854775807 from rfl, and63, wd_mod s r h]
theorem bits_run (b : Nat) (w : World) : (callFunc 17 #[.float .f64 b]).run Try.prog w = .ok (.value (.int .u64 b)) w := by kernel_rfl
theorem from_run (b : Nat) (w : World) : (callFunc 16 #[.int .u64 (b : Int)]).run Try.prog w = .ok (.value (.float .f64 b)) w := by kernel_rfl
theorem abs_any (s : Bool) (r : Nat) (w : World) (h : r < 9223372036854775808) : Calls Try.prog 9 #[.float .f64 (wd s r)] w fun e w' => e = .returned (.float .f64 r) ∧ w = w' := by
  have h1 := fun w => bits_run (wd s r) w
  have h2 := fun w => from_run r w
  have h3 := abs_bits s r h
  clear h
  go_enter Try.func9, Try.ntmps9
  go_wp2_with fail
  go_ret
  exact ⟨rfl, rfl⟩
theorem ext_floor (args : Array Value) (w : World) : (callFunc 12 args).run Try.prog w = ((Extern.MathFloor.toIntegral "math.archFloor" .down args).run Try.prog w).andThen fun v w' => .ok (.value v) w' :=
  run_callFunc_extern Try.func12 (by kernel_rfl) (by kernel_rfl) (by kernel_rfl) (by kernel_rfl) args w
theorem ext_max (args : Array Value) (w : World) : (callFunc 10 args).run Try.prog w = ((Extern.MathDim.pick "math.archMax" false .gt args).run Try.prog w).andThen fun v w' => .ok (.value v) w' :=
  run_callFunc_extern Try.func10 (by kernel_rfl) (by kernel_rfl) (by kernel_rfl) (by kernel_rfl) args w
theorem ext_log (args : Array Value) (w : World) : (callFunc 27 args).run Try.prog w = ((Extern.MathLog.archLog args).run Try.prog w).andThen fun v w' => .ok (.value v) w' :=
  run_callFunc_extern Try.func27 (by kernel_rfl) (by kernel_rfl) (by kernel_rfl) (by kernel_rfl) args w
def Flt (y : Nat) (w : World) (e : Ending) (w' : World) : Prop := e = .returned (.float .f64 y) ∧ w = w'
theorem floor_by (x y : Nat) (w : World) (h : ∀ w, (Extern.MathFloor.toIntegral "math.archFloor" .down #[.float .f64 x]).run Try.prog w = .ok (.float .f64 y) w) : Calls Try.prog 7 #[.float .f64 x] w (Flt y w) := by
  have hd : ∀ w, (callFunc 12 #[.float .f64 x]).run Try.prog w = .ok (.value (.float .f64 y)) w := fun w => by rw [ext_floor, h]; rfl
  clear h
  go_enter Try.func7, Try.ntmps7
  go_wp2_with fail
  go_ret
  exact ⟨rfl, rfl⟩
theorem max_by (x z y : Nat) (w : World) (h : ∀ w, (Extern.MathDim.pick "math.archMax" false .gt #[.float .f64 x, .float .f64 z]).run Try.prog w = .ok (.float .f64 y) w) : Calls Try.prog 6 #[.float .f64 x, .float .f64 z] w (Flt y w) := by
  have hd : ∀ w, (callFunc 10 #[.float .f64 x, .float .f64 z]).run Try.prog w = .ok (.value (.float .f64 y)) w := fun w => by rw [ext_max, h]; rfl
  clear h
  go_enter Try.func6, Try.ntmps6
  go_wp2_with fail
  go_ret
  exact ⟨rfl, rfl⟩
theorem log_by (x y : Nat) (w : World) (h : ∀ w, (Extern.MathLog.archLog #[.float .f64 x]).run Try.prog w = .ok (.float .f64 y) w) : Calls Try.prog 24 #[.float .f64 x] w (Flt y w) := by
  have hd : ∀ w, (callFunc 27 #[.float .f64 x]).run Try.prog w = .ok (.value (.float .f64 y)) w := fun w => by rw [ext_log, h]; rfl
  clear h
  go_enter Try.func24, Try.ntmps24
  go_wp2_with fail
  go_ret
  exact ⟨rfl, rfl⟩
theorem log10s_by (x y z : Nat) (w : World) (h : ∀ w, (Extern.MathLog.archLog #[.float .f64 x]).run Try.prog w = .ok (.float .f64 y) w) (hm : Ieee.double.mul y 4601495173785380110 = some z) : Calls Try.prog 15 #[.float .f64 x] w (Flt z w) := by
  have L := Lib.hid (log_by x y w h)
  have b6 := fun w => run_float_arith (P := Try.prog) w .mul 22 .f64 y 4601495173785380110 z (by show Ieee.double.mul _ _ = _; exact hm)
  clear h hm
  go_enter Try.func15, Try.ntmps15
  go_wp2_with fail
  refine L.out.mono ?_
  rintro e w1 ⟨rfl, rfl⟩
  go_wp2_with fail
  go_ret
  exact ⟨rfl, rfl⟩
theorem log10_by (x y z : Nat) (w : World) (h : ∀ w, (Extern.MathLog.archLog #[.float .f64 x]).run Try.prog w = .ok (.float .f64 y) w) (hm : Ieee.double.mul y 4601495173785380110 = some z) : Calls Try.prog 8 #[.float .f64 x] w (Flt z w) := by
  have L := Lib.hid (log10s_by x y z w h hm)
  clear h hm
  go_enter Try.func8, Try.ntmps8
  go_wp2_with fail
  refine L.out.mono ?_
  rintro e w1 ⟨rfl, rfl⟩
  go_wp2_with fail
  go_ret
  exact ⟨rfl, rfl⟩
theorem neg_wd (r : Nat) (h : r < 9223372036854775808) : Op.negFloat .f64 (wd true r) = r := by
  show (9223372036854775808 + r) ^^^ 2 ^ 63 = r
  have e : 9223372036854775808 + r = 2 ^ 63 * 1 ||| r := Nat.two_pow_add_eq_or_of_lt (i := 63) (by omega) 1
  rw [e]
  apply Nat.eq_of_testBit_eq
  intro i
  rw [Nat.testBit_xor, Nat.testBit_or, Nat.mul_one, Nat.testBit_two_pow]
  by_cases hi : 63 = i
  · subst hi
    rw [Nat.testBit_lt_two_pow (by omega)]; simp
  · simp [hi]
theorem run_neg_float (P : Program) (w : World) (k : FloatKind) (b : Nat) : (Op.unary .neg (.float k b)).run P w = .ok (.float k (Op.negFloat k b)) w := rfl
theorem ret_i {k : IntKind} {a b : Int} (h : a = b) : Ending.returned (.int k a) = .returned (.int k b) := by rw [h]
theorem ret_b {a b : Bool} (h : a = b) : Ending.returned (.bool a) = .returned (.bool b) := by rw [h]
def Cnt (n : Int) (w : World) (e : Ending) (w' : World) : Prop := e = .returned (.int .i64 n) ∧ w = w'
theorem approx_by (s b : Bool) (r y z u v : Nat) (n : Int) (w : World) (hr : r < 9223372036854775808) (hl : ∀ w, (Extern.MathLog.archLog #[.float .f64 r]).run Try.prog w = .ok (.float .f64 y) w) (hm : Ieee.double.mul y 4601495173785380110 = some z)
    (hf : ∀ w, (Extern.MathFloor.toIntegral "math.archFloor" .down #[.float .f64 z]).run Try.prog w = .ok (.float .f64 u) w) (hx : ∀ w, (Extern.MathDim.pick "math.archMax" false .gt #[.float .f64 0, .float .f64 u]).run Try.prog w = .ok (.float .f64 v) w)
    (hc : floatToIntVal .f64 v .i64 = some n) (hs : (FloatKind.f64.format.order (wd s r) 0 == some .lt) = b) (h0 : 0 ≤ n) (h1 : n ≤ 1000) : Calls Try.prog 5 #[.float .f64 (wd s r)] w (Cnt (if b then n + 2 else n + 1) w) := by
  have A := Lib.hid (abs_any s r w hr)
  have L := Lib.hid (log10_by r y z w hl hm)
  have F := Lib.hid (floor_by z u w hf)
  have M := Lib.hid (max_by 0 u v w hx)
  have cv := fun w => run_convert_float_int (P := Try.prog) w 22 3 .f64 .i64 v n (by kernel_rfl) Try.underlying3 hc
  clear hl hm hf hx hr hc
  cases b <;> go_enter Try.func5, Try.ntmps5
  all_goals
    go_wp2_with fail
    refine A.out.mono ?_
    rintro e w1 ⟨rfl, rfl⟩
    go_wp2_with fail
    refine L.out.mono ?_
    rintro e w1 ⟨rfl, rfl⟩
    go_wp2_with fail
    refine F.out.mono ?_
    rintro e w1 ⟨rfl, rfl⟩
    go_wp2_with fail
    refine M.out.mono ?_
    rintro e w1 ⟨rfl, rfl⟩
    go_wp2_with fail
    go_ret
    refine ⟨ret_i ?_, rfl⟩
    first | omega | (simp; done) | (simp; omega)
theorem zz_by (x : Nat) (q : Int → Prop) (w : World) (n : Int) (h : ∀ w, Calls Try.prog 5 #[.float .f64 x] w (Cnt n w)) : Calls Try.prog 4 #[.float .f64 x] w (Cnt n w) := by
  have K := Lib.hid h
  clear h
  go_enter Try.func4, Try.ntmps4
  go_wp2_with fail
  refine (K.out _).mono ?_
  rintro e w1 ⟨rfl, rfl⟩
  go_wp2_with fail
  go_ret
  exact ⟨rfl, rfl⟩
theorem run_of_pure {a v : Value} {x : Sem Value} (h : x = pure v) (P : Program) (w : World) : x.run P w = .ok v w := by rw [h]; rfl
/-- The count of a finite number, of either sign. -/
theorem count_any (r : Nat) (hr : r < 9218868437227405312) : ∃ n : Int, 0 ≤ n ∧ n ≤ 308 ∧ (r < 4621256167635550208 → n = 0) ∧ ∀ (s b : Bool) (w : World), (FloatKind.f64.format.order (wd s r) 0 == some .lt) = b → Calls Try.prog 4 #[.float .f64 (wd s r)] w (Cnt (if b then n + 2 else n + 1) w) := by
  by_cases h0 : r = 0
  · subst h0
    refine ⟨0, by omega, by omega, fun _ => rfl, fun s b w hb => zz_by _ (fun _ => True) w _ fun w => approx_by s b 0 18442240474082181120 18442240474082181120 18442240474082181120 0 0 w (by omega) (fun w => by kernel_rfl) (by decide) (fun w => by kernel_rfl) (fun w => by kernel_rfl) (by decide) hb (by omega) (by omega)⟩
  · obtain ⟨y, z, u, v, n, e1, e2, e3, e4, e5, h1, h2, h3⟩ := count_all r h0 hr
    exact ⟨n, h1, h2, h3, fun s b w hb => zz_by _ (fun _ => True) w _ fun w => approx_by s b r y z u v n w (by omega) (run_of_pure (a := .nilIface) e1 _) e2 (run_of_pure (a := .nilIface) e3 _) (run_of_pure (a := .nilIface) e4 _) e5 hb h1 (by omega)⟩

end Go.Proofs.Ytaodoehkkfkjbad
