/-
  Bounds on what the model's math.archLog answers, by intervals; no program. Printed by gen_lg.py.
-/
import Derived.Test.YtaodoehkkfkjbadRows
import Derived.WalkKit
import Derived.ProofKit
import Derived.OpenShut
import Derived.Test.YtaodoehkkfkjbadFltM
import Derived.Test.YtaodoehkkfkjbadLgA
import Derived.Test.YtaodoehkkfkjbadLgB
import Ieee.Arith
import Derived.Laws.FloatArith
import GoSem.Extern.MathLog
namespace Go.Proofs.Ytaodoehkkfkjbad
open Go.ChangeShapes Go.WideShapes Go.ChangeAt Go.RowKit

set_option linter.unusedVariables false

theorem log_m (A : Nat → Sem Value) (B : Array Value → Sem Value) (x : Nat) : Extern.MathLog.archLog.match_1 (fun _ => Sem Value) #[.float .f64 x] A B = A x := rfl
theorem iv_word' {x : Nat} (s : Bool) (e F : Nat) (lo hi : Int) (hx : x = wd s ((963 + e) * 4503599627370496 + F)) (he : e ≤ 1083) (hF : F < 4503599627370496) (h1 : lo * 4503599627370496 ≤ sg s ((4503599627370496 + F) * 2 ^ e)) (h2 : sg s ((4503599627370496 + F) * 2 ^ e) ≤ hi * 4503599627370496) : Iv x lo hi := hx ▸ iv_word s e F lo hi he hF h1 h2
theorem asm_add {x y z : Nat} (h : Ieee.double.add x y = some z) : Extern.MathAsm.add x y = pure z := by
  unfold Extern.MathAsm.add Extern.MathAsm.arith Op.floatArith
  simp only [show FloatKind.f64.format.add x y = some z from h, pure_bind]
theorem asm_sub {x y z : Nat} (h : Ieee.double.sub x y = some z) : Extern.MathAsm.sub x y = pure z := by
  unfold Extern.MathAsm.sub Extern.MathAsm.arith Op.floatArith
  simp only [show FloatKind.f64.format.sub x y = some z from h, pure_bind]
theorem asm_mul {x y z : Nat} (h : Ieee.double.mul x y = some z) : Extern.MathAsm.mul x y = pure z := by
  unfold Extern.MathAsm.mul Extern.MathAsm.arith Op.floatArith
  simp only [show FloatKind.f64.format.mul x y = some z from h, pure_bind]
theorem asm_div {x y z : Nat} (h : Ieee.double.div x y = some z) : Extern.MathAsm.div x y = pure z := by
  unfold Extern.MathAsm.div Extern.MathAsm.arith Op.floatArith
  simp only [show FloatKind.f64.format.div x y = some z from h, pure_bind]
theorem op_add {x y : Nat} {a b c d : Int} (hx : Iv x a b) (hy : Iv y c d) (lo hi : Int) (fl : Fit lo.natAbs) (fh : Fit hi.natAbs) (h1 : lo ≤ a + c) (h2 : b + d ≤ hi) : ∃ z, Extern.MathAsm.add x y = pure z ∧ Iv z lo hi := by
  obtain ⟨z, h, i⟩ := iv_add hx hy lo hi fl fh h1 h2
  exact ⟨z, asm_add h, i⟩
theorem op_sub {x y : Nat} {a b c d : Int} (hx : Iv x a b) (hy : Iv y c d) (lo hi : Int) (fl : Fit lo.natAbs) (fh : Fit hi.natAbs) (h1 : lo ≤ a - d) (h2 : b - c ≤ hi) : ∃ z, Extern.MathAsm.sub x y = pure z ∧ Iv z lo hi := by
  obtain ⟨z, h, i⟩ := iv_sub hx hy lo hi fl fh h1 h2
  exact ⟨z, asm_sub h, i⟩
theorem op_mul {x y : Nat} {a b c d : Int} (hx : Iv x a b) (hy : Iv y c d) (lo hi : Int) (fl : Fit lo.natAbs) (fh : Fit hi.natAbs) (l1 : lo * 1152921504606846976 ≤ a * c) (l2 : lo * 1152921504606846976 ≤ a * d) (l3 : lo * 1152921504606846976 ≤ b * c) (l4 : lo * 1152921504606846976 ≤ b * d)
    (u1 : a * c ≤ hi * 1152921504606846976) (u2 : a * d ≤ hi * 1152921504606846976) (u3 : b * c ≤ hi * 1152921504606846976) (u4 : b * d ≤ hi * 1152921504606846976) : ∃ z, Extern.MathAsm.mul x y = pure z ∧ Iv z lo hi := by
  obtain ⟨z, h, i⟩ := iv_mul hx hy lo hi fl fh l1 l2 l3 l4 u1 u2 u3 u4
  exact ⟨z, asm_mul h, i⟩
theorem op_div {x y : Nat} {a b c d : Int} (hx : Iv x a b) (hy : Iv y c d) (hc : 0 < c) (lo hi : Int) (fl : Fit lo.natAbs) (fh : Fit hi.natAbs) (hl : lo ≤ 0) (hh : 0 ≤ hi)
    (u : b * 1152921504606847040 ≤ hi * c) (l : lo * c ≤ a * 1152921504606847040) : ∃ z, Extern.MathAsm.div x y = pure z ∧ Iv z lo hi := by
  obtain ⟨z, h, i⟩ := iv_div hx hy hc lo hi fl fh hl hh u l
  exact ⟨z, asm_div h, i⟩
theorem iv_int (n lo hi : Int) (h1 : lo ≤ n) (h2 : n ≤ hi) (h3 : -4503599627370496 ≤ n) (h4 : n ≤ 4503599627370496) : Iv (Extern.MathAsm.ofInt32 n) (lo * 1152921504606846976) (hi * 1152921504606846976) := by
  have hP := pw_pos 1014
  have e : Extern.MathAsm.ofInt32 n = Ieee.double.nearest (decide (n < 0)) n.natAbs 0 := rfl
  rw [e]
  have hv : sg (decide (n < 0)) n.natAbs = n := by
    unfold sg
    by_cases h : n < 0
    · rw [decide_eq_true h]; simp only [if_true]; omega
    · rw [decide_eq_false h]; simp only [Bool.false_eq_true, if_false]; omega
  have f : Fit (n * 1152921504606846976).natAbs := by
    rw [Int.natAbs_mul]
    exact fit_of _ n.natAbs 60 (by omega) (by omega) rfl
  have e2 : ((pw 1074 : Nat) : Int) = 1152921504606846976 * ((pw 1014 : Nat) : Int) := by
    rw [pw60, Int.natCast_mul]; rfl
  refine (iv_write (decide (n < 0)) n.natAbs 0 0 1074 (n * 1152921504606846976) (n * 1152921504606846976) (by omega) f f ?_ ?_).wide (by omega) (by omega)
  all_goals
    rw [sg_mul, hv, e2]
    have : n * 1152921504606846976 * ((pw 1014 : Nat) : Int) * ((pw 0 : Nat) : Int) = n * (1152921504606846976 * ((pw 1014 : Nat) : Int)) := by rw [pw_eq 0, Nat.pow_zero]; simp only [Int.mul_assoc, Int.natCast_one, Int.mul_one]
    omega
set_option maxRecDepth 10000 in
theorem log_g1 (x n : Nat) (f : Nat) (hx0 : x ≠ 0) (hx : x < 9218868437227405312) (hn : x / 4503599627370496 = n) (hf : x % 4503599627370496 + 4602678819172646912 = f) (h1 : 0 ≤ n) (h2 : n ≤ 2046) (hs : Extern.MathAsm.lt 4604544271217802189 f = true) (Hf : Iv f (815238614082387968) (1152921504606846976)) : ∃ z, Extern.MathLog.archLog #[.float .f64 x] = pure (.float .f64 z) ∧ Iv z (-817125036857688588288) (818323753293173489664) := by
  have Hk := iv_int ((n : Int) - 1022) (-1022) (1024) (by omega) (by omega) (by omega) (by omega)
  have e1 : (x % 2 ^ 63 == 0) = false := by simp; omega
  have e2 : ¬ x ≥ 2 ^ 63 := by omega
  have e3 : ¬ x ≥ Extern.MathAsm.posInf := by unfold Extern.MathAsm.posInf; omega
  have e4 : x % 2 ^ 52 + Extern.MathAsm.half = f := hf
  have e5 : (Int.ofNat (x / 2 ^ 52) - 0x3FE) = (n : Int) - 1022 := by rw [show x / 2 ^ 52 = n from hn]; rfl
  delta Extern.MathLog.archLog
  dsimp only
  rw [log_m]
  simp only [e1, e4, e5, if_neg e2, if_neg e3, hs, Bool.false_eq_true, if_false, Bool.not_true]
  simp only [Extern.MathAsm.one, Extern.MathAsm.two, Extern.MathAsm.half]
  generalize Extern.MathAsm.ofInt32 ((n : Int) - 1022) = k at *
  have Hone : Iv 4607182418800017408 (1152921504606846976) (1152921504606846976) := iv_word' false 60 0 (1152921504606846976) (1152921504606846976) (by decide) (by decide) (by decide) (by decide) (by decide)
  have Htwo : Iv 4611686018427387904 (2305843009213693952) (2305843009213693952) := iv_word' false 61 0 (2305843009213693952) (2305843009213693952) (by decide) (by decide) (by decide) (by decide) (by decide)
  have Hhalf : Iv 4602678819172646912 (576460752303423488) (576460752303423488) := iv_word' false 59 0 (576460752303423488) (576460752303423488) (by decide) (by decide) (by decide) (by decide) (by decide)
  have Hz : Iv 0 0 0 := iv_zero
  obtain ⟨k1, Ek1, Hk1⟩ := op_sub Hk Hz (-1178285777708197609472) (1180591620717411303424) (fit_of _ 511 61 (by decide) (by decide) (by decide)) (fit_of _ 1 70 (by decide) (by decide) (by decide)) (by decide) (by decide)
  simp only [Ek1, pure_bind]
  obtain ⟨o, Eo, Ho⟩ := op_add Hz Hone (1152921504606846976) (1152921504606846976) (fit_of _ 1 60 (by decide) (by decide) (by decide)) (fit_of _ 1 60 (by decide) (by decide) (by decide)) (by decide) (by decide)
  simp only [Eo, pure_bind]
  obtain ⟨f2, Ef2, Hf2⟩ := op_mul Hf Ho (815238614082387968) (1152921504606846976) (fit_of _ 777472127993 20 (by decide) (by decide) (by decide)) (fit_of _ 1 60 (by decide) (by decide) (by decide)) (by decide) (by decide) (by decide) (by decide) (by decide) (by decide) (by decide) (by decide)
  simp only [Ef2, pure_bind]
  obtain ⟨ff, Eff, Hff⟩ := op_sub Hf2 Hone (-337682890524459008) (0) (fit_of _ 322039499783 20 (by decide) (by decide) (by decide)) fit_zero (by decide) (by decide)
  simp only [Eff, pure_bind]
  obtain ⟨d, Ed, Hd⟩ := op_add Htwo Hff (1968160118689234944) (2305843009213693952) (fit_of _ 1876983755769 20 (by decide) (by decide) (by decide)) (fit_of _ 1 61 (by decide) (by decide) (by decide)) (by decide) (by decide)
  simp only [Ed, pure_bind]
  obtain ⟨s, Es, Hs⟩ := op_div Hff Hd (by decide) (-197810057488891904) (0) (fit_of _ 94323185677 21 (by decide) (by decide) (by decide)) fit_zero (by decide) (by decide) (by decide) (by decide)
  simp only [Es, pure_bind]
  obtain ⟨s2, Es2, Hs2⟩ := op_mul Hs Hs (0) (33938840318115840) fit_zero (fit_of _ 8091650085 22 (by decide) (by decide) (by decide)) (by decide) (by decide) (by decide) (by decide) (by decide) (by decide) (by decide) (by decide)
  simp only [Es2, pure_bind]
  obtain ⟨s4, Es4, Hs4⟩ := op_mul Hs2 Hs2 (0) (999066179731456) fit_zero (fit_of _ 238195939 22 (by decide) (by decide) (by decide)) (by decide) (by decide) (by decide) (by decide) (by decide) (by decide) (by decide) (by decide)
  simp only [Es4, pure_bind]
  have Hc0 : Iv 4594499633228436036 (170611614012145664) (170611614013194240) := iv_word' false 57 828013310530116 (170611614012145664) (170611614013194240) (by decide) (by decide) (by decide) (by decide) (by decide)
  have Hc1 : Iv 4595719342595441630 (209642313756966912) (209642313758015488) := iv_word' false 57 2047722677535710 (209642313756966912) (209642313758015488) (by decide) (by decide) (by decide) (by decide) (by decide)
  have Hc2 : Iv 4598818590951641945 (329406146158788608) (329406146159837184) := iv_word' false 58 643371406365529 (329406146158788608) (329406146159837184) (by decide) (by decide) (by decide) (by decide) (by decide)
  have Hc3 : Iv 4604180019048437139 (768614336403865600) (768614336404914176) := iv_word' false 59 1501199875790227 (768614336403865600) (768614336404914176) (by decide) (by decide) (by decide) (by decide) (by decide)
  have Hc4 : Iv 4594685411790997151 (176556528014196736) (176556528015245312) := iv_word' false 57 1013791873091231 (176556528014196736) (176556528015245312) (by decide) (by decide) (by decide) (by decide) (by decide)
  have Hc5 : Iv 4597174411056806063 (256204504519671808) (256204504520720384) := iv_word' false 57 3502791138900143 (256204504519671808) (256204504520720384) (by decide) (by decide) (by decide) (by decide) (by decide)
  have Hc6 : Iv 4600877379321592324 (461168601834979328) (461168601836027904) := iv_word' false 58 2702159776315908 (461168601834979328) (461168601836027904) (by decide) (by decide) (by decide) (by decide) (by decide)
  have Hc7 : Iv 4461442080421002358 (219152384) (220200960) := iv_word' false 27 2878449324211318 (219152384) (220200960) (by decide) (by decide) (by decide) (by decide) (by decide)
  have Hc8 : Iv 4604418534311723008 (799144290105163776) (799144290105163776) := iv_word' false 59 1739715139076096 (799144290105163776) (799144290105163776) (by decide) (by decide) (by decide) (by decide) (by decide)
  obtain ⟨a1, Ea1, Ha1⟩ := op_mul Hc0 Hs4 (0) (147843798007808) fit_zero (fit_of _ 140994833 20 (by decide) (by decide) (by decide)) (by decide) (by decide) (by decide) (by decide) (by decide) (by decide) (by decide) (by decide)
  simp only [Ea1, pure_bind]
  obtain ⟨a2, Ea2, Ha2⟩ := op_add Ha1 Hc1 (209642313756966912) (209790157556023296) (fit_of _ 99965245131 21 (by decide) (by decide) (by decide)) (fit_of _ 25008935637 23 (by decide) (by decide) (by decide)) (by decide) (by decide)
  simp only [Ea2, pure_bind]
  obtain ⟨a3, Ea3, Ha3⟩ := op_mul Ha2 Hs4 (0) (181794034941952) fit_zero (fit_of _ 86686151 21 (by decide) (by decide) (by decide)) (by decide) (by decide) (by decide) (by decide) (by decide) (by decide) (by decide) (by decide)
  simp only [Ea3, pure_bind]
  obtain ⟨a4, Ea4, Ha4⟩ := op_add Ha3 Hc2 (329406146158788608) (329587940194779136) (fit_of _ 157073090629 21 (by decide) (by decide) (by decide)) (fit_of _ 314319553561 20 (by decide) (by decide) (by decide)) (by decide) (by decide)
  simp only [Ea4, pure_bind]
  obtain ⟨a5, Ea5, Ha5⟩ := op_mul Ha4 Hs4 (0) (285605016633344) fit_zero (fit_of _ 272374169 20 (by decide) (by decide) (by decide)) (by decide) (by decide) (by decide) (by decide) (by decide) (by decide) (by decide) (by decide)
  simp only [Ea5, pure_bind]
  obtain ⟨a6, Ea6, Ha6⟩ := op_add Ha5 Hc3 (768614336403865600) (768899941421547520) (fit_of _ 366503875925 21 (by decide) (by decide) (by decide)) (fit_of _ 183320031505 22 (by decide) (by decide) (by decide)) (by decide) (by decide)
  simp only [Ea6, pure_bind]
  obtain ⟨t1, Et1, Ht1⟩ := op_mul Hs2 Ha6 (0) (22634300972204032) fit_zero (fit_of _ 21585751507 20 (by decide) (by decide) (by decide)) (by decide) (by decide) (by decide) (by decide) (by decide) (by decide) (by decide) (by decide)
  simp only [Et1, pure_bind]
  obtain ⟨b1, Eb1, Hb1⟩ := op_mul Hc4 Hs4 (0) (152995374301184) fit_zero (fit_of _ 145907759 20 (by decide) (by decide) (by decide)) (by decide) (by decide) (by decide) (by decide) (by decide) (by decide) (by decide) (by decide)
  simp only [Eb1, pure_bind]
  obtain ⟨b2, Eb2, Hb2⟩ := op_add Hb1 Hc5 (256204504519671808) (256357499895021568) (fit_of _ 61083913927 22 (by decide) (by decide) (by decide)) (fit_of _ 61120390867 22 (by decide) (by decide) (by decide)) (by decide) (by decide)
  simp only [Eb2, pure_bind]
  obtain ⟨b3, Eb3, Hb3⟩ := op_mul Hb2 Hs4 (0) (222147047849984) fit_zero (fit_of _ 105927967 21 (by decide) (by decide) (by decide)) (by decide) (by decide) (by decide) (by decide) (by decide) (by decide) (by decide) (by decide)
  simp only [Eb3, pure_bind]
  obtain ⟨b4, Eb4, Hb4⟩ := op_add Hb3 Hc6 (461168601834979328) (461390748883877888) (fit_of _ 439804651103 20 (by decide) (by decide) (by decide)) (fit_of _ 220008253519 21 (by decide) (by decide) (by decide)) (by decide) (by decide)
  simp only [Eb4, pure_bind]
  obtain ⟨t2, Et2, Ht2⟩ := op_mul Hs4 Hb4 (0) (399818974298112) fit_zero (fit_of _ 381297087 20 (by decide) (by decide) (by decide)) (by decide) (by decide) (by decide) (by decide) (by decide) (by decide) (by decide) (by decide)
  simp only [Et2, pure_bind]
  obtain ⟨r, Er, Hr⟩ := op_add Ht1 Ht2 (0) (23034119946502144) fit_zero (fit_of _ 10983524297 21 (by decide) (by decide) (by decide)) (by decide) (by decide)
  simp only [Er, pure_bind]
  obtain ⟨h1, Eh1, Hh1⟩ := op_mul Hhalf Hff (-168841445262753792) (0) (fit_of _ 40254937473 22 (by decide) (by decide) (by decide)) fit_zero (by decide) (by decide) (by decide) (by decide) (by decide) (by decide) (by decide) (by decide)
  simp only [Eh1, pure_bind]
  obtain ⟨hq, Ehq, Hhq⟩ := op_mul Hh1 Hff (0) (49452514372747264) fit_zero (fit_of _ 47161592839 20 (by decide) (by decide) (by decide)) (by decide) (by decide) (by decide) (by decide) (by decide) (by decide) (by decide) (by decide)
  simp only [Ehq, pure_bind]
  obtain ⟨i1, Ei1, Hi1⟩ := op_add Hr Hhq (0) (72486634319249408) fit_zero (fit_of _ 69128641433 20 (by decide) (by decide) (by decide)) (by decide) (by decide)
  simp only [Ei1, pure_bind]
  obtain ⟨i2, Ei2, Hi2⟩ := op_mul Hs Hi1 (-12436740268621824) (0) (fit_of _ 5930299887 21 (by decide) (by decide) (by decide)) fit_zero (by decide) (by decide) (by decide) (by decide) (by decide) (by decide) (by decide) (by decide)
  simp only [Ei2, pure_bind]
  obtain ⟨i3, Ei3, Hi3⟩ := op_mul Hc7 Hk1 (-225045381120) (225485783040) (fit_of _ 53655 22 (by decide) (by decide) (by decide)) (fit_of _ 105 31 (by decide) (by decide) (by decide)) (by decide) (by decide) (by decide) (by decide) (by decide) (by decide) (by decide) (by decide)
  simp only [Ei3, pure_bind]
  obtain ⟨inn, Einn, Hinn⟩ := op_add Hi2 Hi3 (-12436965314002944) (225485783040) (fit_of _ 5930407197 21 (by decide) (by decide) (by decide)) (fit_of _ 105 31 (by decide) (by decide) (by decide)) (by decide) (by decide)
  simp only [Einn, pure_bind]
  obtain ⟨j1, Ej1, Hj1⟩ := op_mul Hk1 Hc8 (-816725464487477379072) (818323753067687706624) (fit_of _ 1521269724681 29 (by decide) (by decide) (by decide)) (fit_of _ 2977044471 38 (by decide) (by decide) (by decide)) (by decide) (by decide) (by decide) (by decide) (by decide) (by decide) (by decide) (by decide)
  simp only [Ej1, pure_bind]
  obtain ⟨j2, Ej2, Hj2⟩ := op_sub Hhq Hinn (-225485783040) (61889479686750208) (fit_of _ 105 31 (by decide) (by decide) (by decide)) (fit_of _ 59022407233 20 (by decide) (by decide) (by decide)) (by decide) (by decide)
  simp only [Ej2, pure_bind]
  obtain ⟨j3, Ej3, Hj3⟩ := op_sub Hj2 Hff (-225485783040) (399572370211209216) (fit_of _ 105 31 (by decide) (by decide) (by decide)) (fit_of _ 47632738377 23 (by decide) (by decide) (by decide)) (by decide) (by decide)
  simp only [Ej3, pure_bind]
  obtain ⟨res, Eres, Hres⟩ := op_sub Hj1 Hj3 (-817125036857688588288) (818323753293173489664) (fit_of _ 97408895117961 23 (by decide) (by decide) (by decide)) (fit_of _ 381061692393 31 (by decide) (by decide) (by decide)) (by decide) (by decide)
  simp only [Eres, pure_bind]
  exact ⟨res, rfl, Hres⟩
set_option maxRecDepth 10000 in
theorem log_g2 (x n : Nat) (f : Nat) (hx0 : x ≠ 0) (hx : x < 9218868437227405312) (hn : x / 4503599627370496 = n) (hf : x % 4503599627370496 + 4602678819172646912 = f) (h1 : 0 ≤ n) (h2 : n ≤ 2046) (hs : Extern.MathAsm.lt 4604544271217802189 f = false) (Hf : Iv f (576460752303423488) (815238614083436544)) : ∃ z, Extern.MathLog.archLog #[.float .f64 x] = pure (.float .f64 z) ∧ Iv z (-817623514031592570880) (818029657890027995136) := by
  have Hk := iv_int ((n : Int) - 1022) (-1022) (1024) (by omega) (by omega) (by omega) (by omega)
  have e1 : (x % 2 ^ 63 == 0) = false := by simp; omega
  have e2 : ¬ x ≥ 2 ^ 63 := by omega
  have e3 : ¬ x ≥ Extern.MathAsm.posInf := by unfold Extern.MathAsm.posInf; omega
  have e4 : x % 2 ^ 52 + Extern.MathAsm.half = f := hf
  have e5 : (Int.ofNat (x / 2 ^ 52) - 0x3FE) = (n : Int) - 1022 := by rw [show x / 2 ^ 52 = n from hn]; rfl
  delta Extern.MathLog.archLog
  dsimp only
  rw [log_m]
  simp only [e1, e4, e5, if_neg e2, if_neg e3, hs, Bool.false_eq_true, if_false, if_true, Bool.not_false]
  simp only [Extern.MathAsm.one, Extern.MathAsm.two, Extern.MathAsm.half]
  generalize Extern.MathAsm.ofInt32 ((n : Int) - 1022) = k at *
  have Hone : Iv 4607182418800017408 (1152921504606846976) (1152921504606846976) := iv_word' false 60 0 (1152921504606846976) (1152921504606846976) (by decide) (by decide) (by decide) (by decide) (by decide)
  have Htwo : Iv 4611686018427387904 (2305843009213693952) (2305843009213693952) := iv_word' false 61 0 (2305843009213693952) (2305843009213693952) (by decide) (by decide) (by decide) (by decide) (by decide)
  have Hhalf : Iv 4602678819172646912 (576460752303423488) (576460752303423488) := iv_word' false 59 0 (576460752303423488) (576460752303423488) (by decide) (by decide) (by decide) (by decide) (by decide)
  have Hz : Iv 0 0 0 := iv_zero
  obtain ⟨k1, Ek1, Hk1⟩ := op_sub Hk Hone (-1179438699212804456448) (1179438699212804456448) (fit_of _ 1023 60 (by decide) (by decide) (by decide)) (fit_of _ 1023 60 (by decide) (by decide) (by decide)) (by decide) (by decide)
  simp only [Ek1, pure_bind]
  obtain ⟨o, Eo, Ho⟩ := op_add Hone Hone (2305843009213693952) (2305843009213693952) (fit_of _ 1 61 (by decide) (by decide) (by decide)) (fit_of _ 1 61 (by decide) (by decide) (by decide)) (by decide) (by decide)
  simp only [Eo, pure_bind]
  obtain ⟨f2, Ef2, Hf2⟩ := op_mul Hf Ho (1152921504606846976) (1630477228166873088) (fit_of _ 1 60 (by decide) (by decide) (by decide)) (fit_of _ 388736063997 22 (by decide) (by decide) (by decide)) (by decide) (by decide) (by decide) (by decide) (by decide) (by decide) (by decide) (by decide)
  simp only [Ef2, pure_bind]
  obtain ⟨ff, Eff, Hff⟩ := op_sub Hf2 Hone (0) (477555723560026112) fit_zero (fit_of _ 113858157053 22 (by decide) (by decide) (by decide)) (by decide) (by decide)
  simp only [Eff, pure_bind]
  obtain ⟨d, Ed, Hd⟩ := op_add Htwo Hff (2305843009213693952) (2783398732773720064) (fit_of _ 1 61 (by decide) (by decide) (by decide)) (fit_of _ 663613970941 22 (by decide) (by decide) (by decide)) (by decide) (by decide)
  simp only [Ed, pure_bind]
  obtain ⟨s, Es, Hs⟩ := op_div Hff Hd (by decide) (0) (238777861781061632) fit_zero (fit_of _ 227716314107 20 (by decide) (by decide) (by decide)) (by decide) (by decide) (by decide) (by decide)
  simp only [Es, pure_bind]
  obtain ⟨s2, Es2, Hs2⟩ := op_mul Hs Hs (0) (49452514372747264) fit_zero (fit_of _ 47161592839 20 (by decide) (by decide) (by decide)) (by decide) (by decide) (by decide) (by decide) (by decide) (by decide) (by decide) (by decide)
  simp only [Es2, pure_bind]
  obtain ⟨s4, Es4, Hs4⟩ := op_mul Hs2 Hs2 (0) (2121177520668672) fit_zero (fit_of _ 1011456261 21 (by decide) (by decide) (by decide)) (by decide) (by decide) (by decide) (by decide) (by decide) (by decide) (by decide) (by decide)
  simp only [Es4, pure_bind]
  have Hc0 : Iv 4594499633228436036 (170611614012145664) (170611614013194240) := iv_word' false 57 828013310530116 (170611614012145664) (170611614013194240) (by decide) (by decide) (by decide) (by decide) (by decide)
  have Hc1 : Iv 4595719342595441630 (209642313756966912) (209642313758015488) := iv_word' false 57 2047722677535710 (209642313756966912) (209642313758015488) (by decide) (by decide) (by decide) (by decide) (by decide)
  have Hc2 : Iv 4598818590951641945 (329406146158788608) (329406146159837184) := iv_word' false 58 643371406365529 (329406146158788608) (329406146159837184) (by decide) (by decide) (by decide) (by decide) (by decide)
  have Hc3 : Iv 4604180019048437139 (768614336403865600) (768614336404914176) := iv_word' false 59 1501199875790227 (768614336403865600) (768614336404914176) (by decide) (by decide) (by decide) (by decide) (by decide)
  have Hc4 : Iv 4594685411790997151 (176556528014196736) (176556528015245312) := iv_word' false 57 1013791873091231 (176556528014196736) (176556528015245312) (by decide) (by decide) (by decide) (by decide) (by decide)
  have Hc5 : Iv 4597174411056806063 (256204504519671808) (256204504520720384) := iv_word' false 57 3502791138900143 (256204504519671808) (256204504520720384) (by decide) (by decide) (by decide) (by decide) (by decide)
  have Hc6 : Iv 4600877379321592324 (461168601834979328) (461168601836027904) := iv_word' false 58 2702159776315908 (461168601834979328) (461168601836027904) (by decide) (by decide) (by decide) (by decide) (by decide)
  have Hc7 : Iv 4461442080421002358 (219152384) (220200960) := iv_word' false 27 2878449324211318 (219152384) (220200960) (by decide) (by decide) (by decide) (by decide) (by decide)
  have Hc8 : Iv 4604418534311723008 (799144290105163776) (799144290105163776) := iv_word' false 59 1739715139076096 (799144290105163776) (799144290105163776) (by decide) (by decide) (by decide) (by decide) (by decide)
  obtain ⟨a1, Ea1, Ha1⟩ := op_mul Hc0 Hs4 (0) (313896062681088) fit_zero (fit_of _ 299354613 20 (by decide) (by decide) (by decide)) (by decide) (by decide) (by decide) (by decide) (by decide) (by decide) (by decide) (by decide)
  simp only [Ea1, pure_bind]
  obtain ⟨a2, Ea2, Ha2⟩ := op_add Ha1 Hc1 (209642313756966912) (209956209820696576) (fit_of _ 99965245131 21 (by decide) (by decide) (by decide)) (fit_of _ 50057461219 22 (by decide) (by decide) (by decide)) (by decide) (by decide)
  simp only [Ea2, pure_bind]
  obtain ⟨a3, Ea3, Ha3⟩ := op_mul Ha2 Hs4 (0) (386283360747520) fit_zero (fit_of _ 46048565 23 (by decide) (by decide) (by decide)) (by decide) (by decide) (by decide) (by decide) (by decide) (by decide) (by decide) (by decide)
  simp only [Ea3, pure_bind]
  obtain ⟨a4, Ea4, Ha4⟩ := op_add Ha3 Hc2 (329406146158788608) (329792429520584704) (fit_of _ 157073090629 21 (by decide) (by decide) (by decide)) (fit_of _ 314514569779 20 (by decide) (by decide) (by decide)) (by decide) (by decide)
  simp only [Ea4, pure_bind]
  obtain ⟨a5, Ea5, Ha5⟩ := op_mul Ha4 Hs4 (0) (606761419538432) fit_zero (fit_of _ 289326391 21 (by decide) (by decide) (by decide)) (by decide) (by decide) (by decide) (by decide) (by decide) (by decide) (by decide) (by decide)
  simp only [Ea5, pure_bind]
  obtain ⟨a6, Ea6, Ha6⟩ := op_add Ha5 Hc3 (768614336403865600) (769221097824452608) (fit_of _ 366503875925 21 (by decide) (by decide) (by decide)) (fit_of _ 733586404633 20 (by decide) (by decide) (by decide)) (by decide) (by decide)
  simp only [Ea6, pure_bind]
  obtain ⟨t1, Et1, Ht1⟩ := op_mul Hs2 Ha6 (0) (32994368866484224) fit_zero (fit_of _ 15732941087 21 (by decide) (by decide) (by decide)) (by decide) (by decide) (by decide) (by decide) (by decide) (by decide) (by decide) (by decide)
  simp only [Et1, pure_bind]
  obtain ⟨b1, Eb1, Hb1⟩ := op_mul Hc4 Hs4 (0) (324833683439616) fit_zero (fit_of _ 309785541 20 (by decide) (by decide) (by decide)) (by decide) (by decide) (by decide) (by decide) (by decide) (by decide) (by decide) (by decide)
  simp only [Eb1, pure_bind]
  obtain ⟨b2, Eb2, Hb2⟩ := op_add Hb1 Hc5 (256204504519671808) (256529338204160000) (fit_of _ 61083913927 22 (by decide) (by decide) (by decide)) (fit_of _ 122322720625 21 (by decide) (by decide) (by decide)) (by decide) (by decide)
  simp only [Eb2, pure_bind]
  obtain ⟨b3, Eb3, Hb3⟩ := op_mul Hb2 Hs4 (0) (471969915994112) fit_zero (fit_of _ 450105587 20 (by decide) (by decide) (by decide)) (by decide) (by decide) (by decide) (by decide) (by decide) (by decide) (by decide) (by decide)
  simp only [Eb3, pure_bind]
  obtain ⟨b4, Eb4, Hb4⟩ := op_add Hb3 Hc6 (461168601834979328) (461640571752022016) (fit_of _ 439804651103 20 (by decide) (by decide) (by decide)) (fit_of _ 440254756691 20 (by decide) (by decide) (by decide)) (by decide) (by decide)
  simp only [Eb4, pure_bind]
  obtain ⟨t2, Et2, Ht2⟩ := op_mul Hs4 Hb4 (0) (849339352088576) fit_zero (fit_of _ 404996563 21 (by decide) (by decide) (by decide)) (by decide) (by decide) (by decide) (by decide) (by decide) (by decide) (by decide) (by decide)
  simp only [Et2, pure_bind]
  obtain ⟨r, Er, Hr⟩ := op_add Ht1 Ht2 (0) (33843708218572800) fit_zero (fit_of _ 8068968825 22 (by decide) (by decide) (by decide)) (by decide) (by decide)
  simp only [Er, pure_bind]
  obtain ⟨h1, Eh1, Hh1⟩ := op_mul Hhalf Hff (0) (238777861780013056) fit_zero (fit_of _ 113858157053 21 (by decide) (by decide) (by decide)) (by decide) (by decide) (by decide) (by decide) (by decide) (by decide) (by decide) (by decide)
  simp only [Eh1, pure_bind]
  obtain ⟨hq, Ehq, Hhq⟩ := op_mul Hh1 Hff (0) (98905028744445952) fit_zero (fit_of _ 94323185677 20 (by decide) (by decide) (by decide)) (by decide) (by decide) (by decide) (by decide) (by decide) (by decide) (by decide) (by decide)
  simp only [Ehq, pure_bind]
  obtain ⟨i1, Ei1, Hi1⟩ := op_add Hr Hhq (0) (132748736963018752) fit_zero (fit_of _ 126599060977 20 (by decide) (by decide) (by decide)) (by decide) (by decide)
  simp only [Ei1, pure_bind]
  obtain ⟨i2, Ei2, Hi2⟩ := op_mul Hs Hi1 (0) (27493163619844096) fit_zero (fit_of _ 26219524021 20 (by decide) (by decide) (by decide)) (by decide) (by decide) (by decide) (by decide) (by decide) (by decide) (by decide) (by decide)
  simp only [Ei2, pure_bind]
  obtain ⟨i3, Ei3, Hi3⟩ := op_mul Hc7 Hk1 (-225265582080) (225265582080) (fit_of _ 107415 21 (by decide) (by decide) (by decide)) (fit_of _ 107415 21 (by decide) (by decide) (by decide)) (by decide) (by decide) (by decide) (by decide) (by decide) (by decide) (by decide) (by decide)
  simp only [Ei3, pure_bind]
  obtain ⟨inn, Einn, Hinn⟩ := op_add Hi2 Hi3 (-225265582080) (27493388885426176) (fit_of _ 107415 21 (by decide) (by decide) (by decide)) (fit_of _ 26219738851 20 (by decide) (by decide) (by decide)) (by decide) (by decide)
  simp only [Einn, pure_bind]
  obtain ⟨j1, Ej1, Hj1⟩ := op_mul Hk1 Hc8 (-817524608777582542848) (817524608777582542848) (fit_of _ 3045516493833 28 (by decide) (by decide) (by decide)) (fit_of _ 3045516493833 28 (by decide) (by decide) (by decide)) (by decide) (by decide) (by decide) (by decide) (by decide) (by decide) (by decide) (by decide)
  simp only [Ej1, pure_bind]
  obtain ⟨j2, Ej2, Hj2⟩ := op_sub Hhq Hinn (-27493388885426176) (98905254010028032) (fit_of _ 26219738851 20 (by decide) (by decide) (by decide)) (fit_of _ 94323400507 20 (by decide) (by decide) (by decide)) (by decide) (by decide)
  simp only [Ej2, pure_bind]
  obtain ⟨j3, Ej3, Hj3⟩ := op_sub Hj2 Hff (-505049112445452288) (98905254010028032) (fit_of _ 481652367063 20 (by decide) (by decide) (by decide)) (fit_of _ 94323400507 20 (by decide) (by decide) (by decide)) (by decide) (by decide)
  simp only [Ej3, pure_bind]
  obtain ⟨res, Eres, Hres⟩ := op_sub Hj1 Hj3 (-817623514031592570880) (818029657890027995136) (fit_of _ 779746545821755 20 (by decide) (by decide) (by decide)) (fit_of _ 780133874788311 20 (by decide) (by decide) (by decide)) (by decide) (by decide)
  simp only [Eres, pure_bind]
  exact ⟨res, rfl, Hres⟩
set_option maxRecDepth 10000 in
theorem log_l1 (x n : Nat) (f : Nat) (hx0 : x ≠ 0) (hx : x < 9218868437227405312) (hn : x / 4503599627370496 = n) (hf : x % 4503599627370496 + 4602678819172646912 = f) (h1 : 0 ≤ n) (h2 : n ≤ 1025) (hs : Extern.MathAsm.lt 4604544271217802189 f = true) (Hf : Iv f (815238614082387968) (1152921504606846976)) : ∃ z, Extern.MathLog.archLog #[.float .f64 x] = pure (.float .f64 z) ∧ Iv z (-817125036857688588288) (2397432870976094208) := by
  have Hk := iv_int ((n : Int) - 1022) (-1022) (3) (by omega) (by omega) (by omega) (by omega)
  have e1 : (x % 2 ^ 63 == 0) = false := by simp; omega
  have e2 : ¬ x ≥ 2 ^ 63 := by omega
  have e3 : ¬ x ≥ Extern.MathAsm.posInf := by unfold Extern.MathAsm.posInf; omega
  have e4 : x % 2 ^ 52 + Extern.MathAsm.half = f := hf
  have e5 : (Int.ofNat (x / 2 ^ 52) - 0x3FE) = (n : Int) - 1022 := by rw [show x / 2 ^ 52 = n from hn]; rfl
  delta Extern.MathLog.archLog
  dsimp only
  rw [log_m]
  simp only [e1, e4, e5, if_neg e2, if_neg e3, hs, Bool.false_eq_true, if_false, Bool.not_true]
  simp only [Extern.MathAsm.one, Extern.MathAsm.two, Extern.MathAsm.half]
  generalize Extern.MathAsm.ofInt32 ((n : Int) - 1022) = k at *
  have Hone : Iv 4607182418800017408 (1152921504606846976) (1152921504606846976) := iv_word' false 60 0 (1152921504606846976) (1152921504606846976) (by decide) (by decide) (by decide) (by decide) (by decide)
  have Htwo : Iv 4611686018427387904 (2305843009213693952) (2305843009213693952) := iv_word' false 61 0 (2305843009213693952) (2305843009213693952) (by decide) (by decide) (by decide) (by decide) (by decide)
  have Hhalf : Iv 4602678819172646912 (576460752303423488) (576460752303423488) := iv_word' false 59 0 (576460752303423488) (576460752303423488) (by decide) (by decide) (by decide) (by decide) (by decide)
  have Hz : Iv 0 0 0 := iv_zero
  obtain ⟨k1, Ek1, Hk1⟩ := op_sub Hk Hz (-1178285777708197609472) (3458764513820540928) (fit_of _ 511 61 (by decide) (by decide) (by decide)) (fit_of _ 3 60 (by decide) (by decide) (by decide)) (by decide) (by decide)
  simp only [Ek1, pure_bind]
  obtain ⟨o, Eo, Ho⟩ := op_add Hz Hone (1152921504606846976) (1152921504606846976) (fit_of _ 1 60 (by decide) (by decide) (by decide)) (fit_of _ 1 60 (by decide) (by decide) (by decide)) (by decide) (by decide)
  simp only [Eo, pure_bind]
  obtain ⟨f2, Ef2, Hf2⟩ := op_mul Hf Ho (815238614082387968) (1152921504606846976) (fit_of _ 777472127993 20 (by decide) (by decide) (by decide)) (fit_of _ 1 60 (by decide) (by decide) (by decide)) (by decide) (by decide) (by decide) (by decide) (by decide) (by decide) (by decide) (by decide)
  simp only [Ef2, pure_bind]
  obtain ⟨ff, Eff, Hff⟩ := op_sub Hf2 Hone (-337682890524459008) (0) (fit_of _ 322039499783 20 (by decide) (by decide) (by decide)) fit_zero (by decide) (by decide)
  simp only [Eff, pure_bind]
  obtain ⟨d, Ed, Hd⟩ := op_add Htwo Hff (1968160118689234944) (2305843009213693952) (fit_of _ 1876983755769 20 (by decide) (by decide) (by decide)) (fit_of _ 1 61 (by decide) (by decide) (by decide)) (by decide) (by decide)
  simp only [Ed, pure_bind]
  obtain ⟨s, Es, Hs⟩ := op_div Hff Hd (by decide) (-197810057488891904) (0) (fit_of _ 94323185677 21 (by decide) (by decide) (by decide)) fit_zero (by decide) (by decide) (by decide) (by decide)
  simp only [Es, pure_bind]
  obtain ⟨s2, Es2, Hs2⟩ := op_mul Hs Hs (0) (33938840318115840) fit_zero (fit_of _ 8091650085 22 (by decide) (by decide) (by decide)) (by decide) (by decide) (by decide) (by decide) (by decide) (by decide) (by decide) (by decide)
  simp only [Es2, pure_bind]
  obtain ⟨s4, Es4, Hs4⟩ := op_mul Hs2 Hs2 (0) (999066179731456) fit_zero (fit_of _ 238195939 22 (by decide) (by decide) (by decide)) (by decide) (by decide) (by decide) (by decide) (by decide) (by decide) (by decide) (by decide)
  simp only [Es4, pure_bind]
  have Hc0 : Iv 4594499633228436036 (170611614012145664) (170611614013194240) := iv_word' false 57 828013310530116 (170611614012145664) (170611614013194240) (by decide) (by decide) (by decide) (by decide) (by decide)
  have Hc1 : Iv 4595719342595441630 (209642313756966912) (209642313758015488) := iv_word' false 57 2047722677535710 (209642313756966912) (209642313758015488) (by decide) (by decide) (by decide) (by decide) (by decide)
  have Hc2 : Iv 4598818590951641945 (329406146158788608) (329406146159837184) := iv_word' false 58 643371406365529 (329406146158788608) (329406146159837184) (by decide) (by decide) (by decide) (by decide) (by decide)
  have Hc3 : Iv 4604180019048437139 (768614336403865600) (768614336404914176) := iv_word' false 59 1501199875790227 (768614336403865600) (768614336404914176) (by decide) (by decide) (by decide) (by decide) (by decide)
  have Hc4 : Iv 4594685411790997151 (176556528014196736) (176556528015245312) := iv_word' false 57 1013791873091231 (176556528014196736) (176556528015245312) (by decide) (by decide) (by decide) (by decide) (by decide)
  have Hc5 : Iv 4597174411056806063 (256204504519671808) (256204504520720384) := iv_word' false 57 3502791138900143 (256204504519671808) (256204504520720384) (by decide) (by decide) (by decide) (by decide) (by decide)
  have Hc6 : Iv 4600877379321592324 (461168601834979328) (461168601836027904) := iv_word' false 58 2702159776315908 (461168601834979328) (461168601836027904) (by decide) (by decide) (by decide) (by decide) (by decide)
  have Hc7 : Iv 4461442080421002358 (219152384) (220200960) := iv_word' false 27 2878449324211318 (219152384) (220200960) (by decide) (by decide) (by decide) (by decide) (by decide)
  have Hc8 : Iv 4604418534311723008 (799144290105163776) (799144290105163776) := iv_word' false 59 1739715139076096 (799144290105163776) (799144290105163776) (by decide) (by decide) (by decide) (by decide) (by decide)
  obtain ⟨a1, Ea1, Ha1⟩ := op_mul Hc0 Hs4 (0) (147843798007808) fit_zero (fit_of _ 140994833 20 (by decide) (by decide) (by decide)) (by decide) (by decide) (by decide) (by decide) (by decide) (by decide) (by decide) (by decide)
  simp only [Ea1, pure_bind]
  obtain ⟨a2, Ea2, Ha2⟩ := op_add Ha1 Hc1 (209642313756966912) (209790157556023296) (fit_of _ 99965245131 21 (by decide) (by decide) (by decide)) (fit_of _ 25008935637 23 (by decide) (by decide) (by decide)) (by decide) (by decide)
  simp only [Ea2, pure_bind]
  obtain ⟨a3, Ea3, Ha3⟩ := op_mul Ha2 Hs4 (0) (181794034941952) fit_zero (fit_of _ 86686151 21 (by decide) (by decide) (by decide)) (by decide) (by decide) (by decide) (by decide) (by decide) (by decide) (by decide) (by decide)
  simp only [Ea3, pure_bind]
  obtain ⟨a4, Ea4, Ha4⟩ := op_add Ha3 Hc2 (329406146158788608) (329587940194779136) (fit_of _ 157073090629 21 (by decide) (by decide) (by decide)) (fit_of _ 314319553561 20 (by decide) (by decide) (by decide)) (by decide) (by decide)
  simp only [Ea4, pure_bind]
  obtain ⟨a5, Ea5, Ha5⟩ := op_mul Ha4 Hs4 (0) (285605016633344) fit_zero (fit_of _ 272374169 20 (by decide) (by decide) (by decide)) (by decide) (by decide) (by decide) (by decide) (by decide) (by decide) (by decide) (by decide)
  simp only [Ea5, pure_bind]
  obtain ⟨a6, Ea6, Ha6⟩ := op_add Ha5 Hc3 (768614336403865600) (768899941421547520) (fit_of _ 366503875925 21 (by decide) (by decide) (by decide)) (fit_of _ 183320031505 22 (by decide) (by decide) (by decide)) (by decide) (by decide)
  simp only [Ea6, pure_bind]
  obtain ⟨t1, Et1, Ht1⟩ := op_mul Hs2 Ha6 (0) (22634300972204032) fit_zero (fit_of _ 21585751507 20 (by decide) (by decide) (by decide)) (by decide) (by decide) (by decide) (by decide) (by decide) (by decide) (by decide) (by decide)
  simp only [Et1, pure_bind]
  obtain ⟨b1, Eb1, Hb1⟩ := op_mul Hc4 Hs4 (0) (152995374301184) fit_zero (fit_of _ 145907759 20 (by decide) (by decide) (by decide)) (by decide) (by decide) (by decide) (by decide) (by decide) (by decide) (by decide) (by decide)
  simp only [Eb1, pure_bind]
  obtain ⟨b2, Eb2, Hb2⟩ := op_add Hb1 Hc5 (256204504519671808) (256357499895021568) (fit_of _ 61083913927 22 (by decide) (by decide) (by decide)) (fit_of _ 61120390867 22 (by decide) (by decide) (by decide)) (by decide) (by decide)
  simp only [Eb2, pure_bind]
  obtain ⟨b3, Eb3, Hb3⟩ := op_mul Hb2 Hs4 (0) (222147047849984) fit_zero (fit_of _ 105927967 21 (by decide) (by decide) (by decide)) (by decide) (by decide) (by decide) (by decide) (by decide) (by decide) (by decide) (by decide)
  simp only [Eb3, pure_bind]
  obtain ⟨b4, Eb4, Hb4⟩ := op_add Hb3 Hc6 (461168601834979328) (461390748883877888) (fit_of _ 439804651103 20 (by decide) (by decide) (by decide)) (fit_of _ 220008253519 21 (by decide) (by decide) (by decide)) (by decide) (by decide)
  simp only [Eb4, pure_bind]
  obtain ⟨t2, Et2, Ht2⟩ := op_mul Hs4 Hb4 (0) (399818974298112) fit_zero (fit_of _ 381297087 20 (by decide) (by decide) (by decide)) (by decide) (by decide) (by decide) (by decide) (by decide) (by decide) (by decide) (by decide)
  simp only [Et2, pure_bind]
  obtain ⟨r, Er, Hr⟩ := op_add Ht1 Ht2 (0) (23034119946502144) fit_zero (fit_of _ 10983524297 21 (by decide) (by decide) (by decide)) (by decide) (by decide)
  simp only [Er, pure_bind]
  obtain ⟨h1, Eh1, Hh1⟩ := op_mul Hhalf Hff (-168841445262753792) (0) (fit_of _ 40254937473 22 (by decide) (by decide) (by decide)) fit_zero (by decide) (by decide) (by decide) (by decide) (by decide) (by decide) (by decide) (by decide)
  simp only [Eh1, pure_bind]
  obtain ⟨hq, Ehq, Hhq⟩ := op_mul Hh1 Hff (0) (49452514372747264) fit_zero (fit_of _ 47161592839 20 (by decide) (by decide) (by decide)) (by decide) (by decide) (by decide) (by decide) (by decide) (by decide) (by decide) (by decide)
  simp only [Ehq, pure_bind]
  obtain ⟨i1, Ei1, Hi1⟩ := op_add Hr Hhq (0) (72486634319249408) fit_zero (fit_of _ 69128641433 20 (by decide) (by decide) (by decide)) (by decide) (by decide)
  simp only [Ei1, pure_bind]
  obtain ⟨i2, Ei2, Hi2⟩ := op_mul Hs Hi1 (-12436740268621824) (0) (fit_of _ 5930299887 21 (by decide) (by decide) (by decide)) fit_zero (by decide) (by decide) (by decide) (by decide) (by decide) (by decide) (by decide) (by decide)
  simp only [Ei2, pure_bind]
  obtain ⟨i3, Ei3, Hi3⟩ := op_mul Hc7 Hk1 (-225045381120) (660602880) (fit_of _ 53655 22 (by decide) (by decide) (by decide)) (fit_of _ 315 21 (by decide) (by decide) (by decide)) (by decide) (by decide) (by decide) (by decide) (by decide) (by decide) (by decide) (by decide)
  simp only [Ei3, pure_bind]
  obtain ⟨inn, Einn, Hinn⟩ := op_add Hi2 Hi3 (-12436965314002944) (660602880) (fit_of _ 5930407197 21 (by decide) (by decide) (by decide)) (fit_of _ 315 21 (by decide) (by decide) (by decide)) (by decide) (by decide)
  simp only [Einn, pure_bind]
  obtain ⟨j1, Ej1, Hj1⟩ := op_mul Hk1 Hc8 (-816725464487477379072) (2397432870315491328) (fit_of _ 1521269724681 29 (by decide) (by decide) (by decide)) (fit_of _ 8931133413 28 (by decide) (by decide) (by decide)) (by decide) (by decide) (by decide) (by decide) (by decide) (by decide) (by decide) (by decide)
  simp only [Ej1, pure_bind]
  obtain ⟨j2, Ej2, Hj2⟩ := op_sub Hhq Hinn (-660602880) (61889479686750208) (fit_of _ 315 21 (by decide) (by decide) (by decide)) (fit_of _ 59022407233 20 (by decide) (by decide) (by decide)) (by decide) (by decide)
  simp only [Ej2, pure_bind]
  obtain ⟨j3, Ej3, Hj3⟩ := op_sub Hj2 Hff (-660602880) (399572370211209216) (fit_of _ 315 21 (by decide) (by decide) (by decide)) (fit_of _ 47632738377 23 (by decide) (by decide) (by decide)) (by decide) (by decide)
  simp only [Ej3, pure_bind]
  obtain ⟨res, Eres, Hres⟩ := op_sub Hj1 Hj3 (-817125036857688588288) (2397432870976094208) (fit_of _ 97408895117961 23 (by decide) (by decide) (by decide)) (fit_of _ 1143185077179 21 (by decide) (by decide) (by decide)) (by decide) (by decide)
  simp only [Eres, pure_bind]
  exact ⟨res, rfl, Hres⟩
set_option maxRecDepth 10000 in
theorem log_l2 (x n : Nat) (f : Nat) (hx0 : x ≠ 0) (hx : x < 9218868437227405312) (hn : x / 4503599627370496 = n) (hf : x % 4503599627370496 + 4602678819172646912 = f) (h1 : 0 ≤ n) (h2 : n ≤ 1025) (hs : Extern.MathAsm.lt 4604544271217802189 f = false) (Hf : Iv f (576460752303423488) (815238614083436544)) : ∃ z, Extern.MathLog.archLog #[.float .f64 x] = pure (.float .f64 z) ∧ Iv z (-817623514031592570880) (2103337467830599680) := by
  have Hk := iv_int ((n : Int) - 1022) (-1022) (3) (by omega) (by omega) (by omega) (by omega)
  have e1 : (x % 2 ^ 63 == 0) = false := by simp; omega
  have e2 : ¬ x ≥ 2 ^ 63 := by omega
  have e3 : ¬ x ≥ Extern.MathAsm.posInf := by unfold Extern.MathAsm.posInf; omega
  have e4 : x % 2 ^ 52 + Extern.MathAsm.half = f := hf
  have e5 : (Int.ofNat (x / 2 ^ 52) - 0x3FE) = (n : Int) - 1022 := by rw [show x / 2 ^ 52 = n from hn]; rfl
  delta Extern.MathLog.archLog
  dsimp only
  rw [log_m]
  simp only [e1, e4, e5, if_neg e2, if_neg e3, hs, Bool.false_eq_true, if_false, if_true, Bool.not_false]
  simp only [Extern.MathAsm.one, Extern.MathAsm.two, Extern.MathAsm.half]
  generalize Extern.MathAsm.ofInt32 ((n : Int) - 1022) = k at *
  have Hone : Iv 4607182418800017408 (1152921504606846976) (1152921504606846976) := iv_word' false 60 0 (1152921504606846976) (1152921504606846976) (by decide) (by decide) (by decide) (by decide) (by decide)
  have Htwo : Iv 4611686018427387904 (2305843009213693952) (2305843009213693952) := iv_word' false 61 0 (2305843009213693952) (2305843009213693952) (by decide) (by decide) (by decide) (by decide) (by decide)
  have Hhalf : Iv 4602678819172646912 (576460752303423488) (576460752303423488) := iv_word' false 59 0 (576460752303423488) (576460752303423488) (by decide) (by decide) (by decide) (by decide) (by decide)
  have Hz : Iv 0 0 0 := iv_zero
  obtain ⟨k1, Ek1, Hk1⟩ := op_sub Hk Hone (-1179438699212804456448) (2305843009213693952) (fit_of _ 1023 60 (by decide) (by decide) (by decide)) (fit_of _ 1 61 (by decide) (by decide) (by decide)) (by decide) (by decide)
  simp only [Ek1, pure_bind]
  obtain ⟨o, Eo, Ho⟩ := op_add Hone Hone (2305843009213693952) (2305843009213693952) (fit_of _ 1 61 (by decide) (by decide) (by decide)) (fit_of _ 1 61 (by decide) (by decide) (by decide)) (by decide) (by decide)
  simp only [Eo, pure_bind]
  obtain ⟨f2, Ef2, Hf2⟩ := op_mul Hf Ho (1152921504606846976) (1630477228166873088) (fit_of _ 1 60 (by decide) (by decide) (by decide)) (fit_of _ 388736063997 22 (by decide) (by decide) (by decide)) (by decide) (by decide) (by decide) (by decide) (by decide) (by decide) (by decide) (by decide)
  simp only [Ef2, pure_bind]
  obtain ⟨ff, Eff, Hff⟩ := op_sub Hf2 Hone (0) (477555723560026112) fit_zero (fit_of _ 113858157053 22 (by decide) (by decide) (by decide)) (by decide) (by decide)
  simp only [Eff, pure_bind]
  obtain ⟨d, Ed, Hd⟩ := op_add Htwo Hff (2305843009213693952) (2783398732773720064) (fit_of _ 1 61 (by decide) (by decide) (by decide)) (fit_of _ 663613970941 22 (by decide) (by decide) (by decide)) (by decide) (by decide)
  simp only [Ed, pure_bind]
  obtain ⟨s, Es, Hs⟩ := op_div Hff Hd (by decide) (0) (238777861781061632) fit_zero (fit_of _ 227716314107 20 (by decide) (by decide) (by decide)) (by decide) (by decide) (by decide) (by decide)
  simp only [Es, pure_bind]
  obtain ⟨s2, Es2, Hs2⟩ := op_mul Hs Hs (0) (49452514372747264) fit_zero (fit_of _ 47161592839 20 (by decide) (by decide) (by decide)) (by decide) (by decide) (by decide) (by decide) (by decide) (by decide) (by decide) (by decide)
  simp only [Es2, pure_bind]
  obtain ⟨s4, Es4, Hs4⟩ := op_mul Hs2 Hs2 (0) (2121177520668672) fit_zero (fit_of _ 1011456261 21 (by decide) (by decide) (by decide)) (by decide) (by decide) (by decide) (by decide) (by decide) (by decide) (by decide) (by decide)
  simp only [Es4, pure_bind]
  have Hc0 : Iv 4594499633228436036 (170611614012145664) (170611614013194240) := iv_word' false 57 828013310530116 (170611614012145664) (170611614013194240) (by decide) (by decide) (by decide) (by decide) (by decide)
  have Hc1 : Iv 4595719342595441630 (209642313756966912) (209642313758015488) := iv_word' false 57 2047722677535710 (209642313756966912) (209642313758015488) (by decide) (by decide) (by decide) (by decide) (by decide)
  have Hc2 : Iv 4598818590951641945 (329406146158788608) (329406146159837184) := iv_word' false 58 643371406365529 (329406146158788608) (329406146159837184) (by decide) (by decide) (by decide) (by decide) (by decide)
  have Hc3 : Iv 4604180019048437139 (768614336403865600) (768614336404914176) := iv_word' false 59 1501199875790227 (768614336403865600) (768614336404914176) (by decide) (by decide) (by decide) (by decide) (by decide)
  have Hc4 : Iv 4594685411790997151 (176556528014196736) (176556528015245312) := iv_word' false 57 1013791873091231 (176556528014196736) (176556528015245312) (by decide) (by decide) (by decide) (by decide) (by decide)
  have Hc5 : Iv 4597174411056806063 (256204504519671808) (256204504520720384) := iv_word' false 57 3502791138900143 (256204504519671808) (256204504520720384) (by decide) (by decide) (by decide) (by decide) (by decide)
  have Hc6 : Iv 4600877379321592324 (461168601834979328) (461168601836027904) := iv_word' false 58 2702159776315908 (461168601834979328) (461168601836027904) (by decide) (by decide) (by decide) (by decide) (by decide)
  have Hc7 : Iv 4461442080421002358 (219152384) (220200960) := iv_word' false 27 2878449324211318 (219152384) (220200960) (by decide) (by decide) (by decide) (by decide) (by decide)
  have Hc8 : Iv 4604418534311723008 (799144290105163776) (799144290105163776) := iv_word' false 59 1739715139076096 (799144290105163776) (799144290105163776) (by decide) (by decide) (by decide) (by decide) (by decide)
  obtain ⟨a1, Ea1, Ha1⟩ := op_mul Hc0 Hs4 (0) (313896062681088) fit_zero (fit_of _ 299354613 20 (by decide) (by decide) (by decide)) (by decide) (by decide) (by decide) (by decide) (by decide) (by decide) (by decide) (by decide)
  simp only [Ea1, pure_bind]
  obtain ⟨a2, Ea2, Ha2⟩ := op_add Ha1 Hc1 (209642313756966912) (209956209820696576) (fit_of _ 99965245131 21 (by decide) (by decide) (by decide)) (fit_of _ 50057461219 22 (by decide) (by decide) (by decide)) (by decide) (by decide)
  simp only [Ea2, pure_bind]
  obtain ⟨a3, Ea3, Ha3⟩ := op_mul Ha2 Hs4 (0) (386283360747520) fit_zero (fit_of _ 46048565 23 (by decide) (by decide) (by decide)) (by decide) (by decide) (by decide) (by decide) (by decide) (by decide) (by decide) (by decide)
  simp only [Ea3, pure_bind]
  obtain ⟨a4, Ea4, Ha4⟩ := op_add Ha3 Hc2 (329406146158788608) (329792429520584704) (fit_of _ 157073090629 21 (by decide) (by decide) (by decide)) (fit_of _ 314514569779 20 (by decide) (by decide) (by decide)) (by decide) (by decide)
  simp only [Ea4, pure_bind]
  obtain ⟨a5, Ea5, Ha5⟩ := op_mul Ha4 Hs4 (0) (606761419538432) fit_zero (fit_of _ 289326391 21 (by decide) (by decide) (by decide)) (by decide) (by decide) (by decide) (by decide) (by decide) (by decide) (by decide) (by decide)
  simp only [Ea5, pure_bind]
  obtain ⟨a6, Ea6, Ha6⟩ := op_add Ha5 Hc3 (768614336403865600) (769221097824452608) (fit_of _ 366503875925 21 (by decide) (by decide) (by decide)) (fit_of _ 733586404633 20 (by decide) (by decide) (by decide)) (by decide) (by decide)
  simp only [Ea6, pure_bind]
  obtain ⟨t1, Et1, Ht1⟩ := op_mul Hs2 Ha6 (0) (32994368866484224) fit_zero (fit_of _ 15732941087 21 (by decide) (by decide) (by decide)) (by decide) (by decide) (by decide) (by decide) (by decide) (by decide) (by decide) (by decide)
  simp only [Et1, pure_bind]
  obtain ⟨b1, Eb1, Hb1⟩ := op_mul Hc4 Hs4 (0) (324833683439616) fit_zero (fit_of _ 309785541 20 (by decide) (by decide) (by decide)) (by decide) (by decide) (by decide) (by decide) (by decide) (by decide) (by decide) (by decide)
  simp only [Eb1, pure_bind]
  obtain ⟨b2, Eb2, Hb2⟩ := op_add Hb1 Hc5 (256204504519671808) (256529338204160000) (fit_of _ 61083913927 22 (by decide) (by decide) (by decide)) (fit_of _ 122322720625 21 (by decide) (by decide) (by decide)) (by decide) (by decide)
  simp only [Eb2, pure_bind]
  obtain ⟨b3, Eb3, Hb3⟩ := op_mul Hb2 Hs4 (0) (471969915994112) fit_zero (fit_of _ 450105587 20 (by decide) (by decide) (by decide)) (by decide) (by decide) (by decide) (by decide) (by decide) (by decide) (by decide) (by decide)
  simp only [Eb3, pure_bind]
  obtain ⟨b4, Eb4, Hb4⟩ := op_add Hb3 Hc6 (461168601834979328) (461640571752022016) (fit_of _ 439804651103 20 (by decide) (by decide) (by decide)) (fit_of _ 440254756691 20 (by decide) (by decide) (by decide)) (by decide) (by decide)
  simp only [Eb4, pure_bind]
  obtain ⟨t2, Et2, Ht2⟩ := op_mul Hs4 Hb4 (0) (849339352088576) fit_zero (fit_of _ 404996563 21 (by decide) (by decide) (by decide)) (by decide) (by decide) (by decide) (by decide) (by decide) (by decide) (by decide) (by decide)
  simp only [Et2, pure_bind]
  obtain ⟨r, Er, Hr⟩ := op_add Ht1 Ht2 (0) (33843708218572800) fit_zero (fit_of _ 8068968825 22 (by decide) (by decide) (by decide)) (by decide) (by decide)
  simp only [Er, pure_bind]
  obtain ⟨h1, Eh1, Hh1⟩ := op_mul Hhalf Hff (0) (238777861780013056) fit_zero (fit_of _ 113858157053 21 (by decide) (by decide) (by decide)) (by decide) (by decide) (by decide) (by decide) (by decide) (by decide) (by decide) (by decide)
  simp only [Eh1, pure_bind]
  obtain ⟨hq, Ehq, Hhq⟩ := op_mul Hh1 Hff (0) (98905028744445952) fit_zero (fit_of _ 94323185677 20 (by decide) (by decide) (by decide)) (by decide) (by decide) (by decide) (by decide) (by decide) (by decide) (by decide) (by decide)
  simp only [Ehq, pure_bind]
  obtain ⟨i1, Ei1, Hi1⟩ := op_add Hr Hhq (0) (132748736963018752) fit_zero (fit_of _ 126599060977 20 (by decide) (by decide) (by decide)) (by decide) (by decide)
  simp only [Ei1, pure_bind]
  obtain ⟨i2, Ei2, Hi2⟩ := op_mul Hs Hi1 (0) (27493163619844096) fit_zero (fit_of _ 26219524021 20 (by decide) (by decide) (by decide)) (by decide) (by decide) (by decide) (by decide) (by decide) (by decide) (by decide) (by decide)
  simp only [Ei2, pure_bind]
  obtain ⟨i3, Ei3, Hi3⟩ := op_mul Hc7 Hk1 (-225265582080) (440401920) (fit_of _ 107415 21 (by decide) (by decide) (by decide)) (fit_of _ 105 22 (by decide) (by decide) (by decide)) (by decide) (by decide) (by decide) (by decide) (by decide) (by decide) (by decide) (by decide)
  simp only [Ei3, pure_bind]
  obtain ⟨inn, Einn, Hinn⟩ := op_add Hi2 Hi3 (-225265582080) (27493164060246016) (fit_of _ 107415 21 (by decide) (by decide) (by decide)) (fit_of _ 26219524441 20 (by decide) (by decide) (by decide)) (by decide) (by decide)
  simp only [Einn, pure_bind]
  obtain ⟨j1, Ej1, Hj1⟩ := op_mul Hk1 Hc8 (-817524608777582542848) (1598288580210327552) (fit_of _ 3045516493833 28 (by decide) (by decide) (by decide)) (fit_of _ 2977044471 29 (by decide) (by decide) (by decide)) (by decide) (by decide) (by decide) (by decide) (by decide) (by decide) (by decide) (by decide)
  simp only [Ej1, pure_bind]
  obtain ⟨j2, Ej2, Hj2⟩ := op_sub Hhq Hinn (-27493164060246016) (98905254010028032) (fit_of _ 26219524441 20 (by decide) (by decide) (by decide)) (fit_of _ 94323400507 20 (by decide) (by decide) (by decide)) (by decide) (by decide)
  simp only [Ej2, pure_bind]
  obtain ⟨j3, Ej3, Hj3⟩ := op_sub Hj2 Hff (-505048887620272128) (98905254010028032) (fit_of _ 481652152653 20 (by decide) (by decide) (by decide)) (fit_of _ 94323400507 20 (by decide) (by decide) (by decide)) (by decide) (by decide)
  simp only [Ej3, pure_bind]
  obtain ⟨res, Eres, Hres⟩ := op_sub Hj1 Hj3 (-817623514031592570880) (2103337467830599680) (fit_of _ 779746545821755 20 (by decide) (by decide) (by decide)) (fit_of _ 2005898921805 20 (by decide) (by decide) (by decide)) (by decide) (by decide)
  simp only [Eres, pure_bind]
  exact ⟨res, rfl, Hres⟩
set_option maxRecDepth 10000 in
theorem log_l3 (x n : Nat) (f : Nat) (hx0 : x ≠ 0) (hx : x < 9218868437227405312) (hn : x / 4503599627370496 = n) (hf : x % 4503599627370496 + 4602678819172646912 = f) (h1 : 1026 ≤ n) (h2 : n ≤ 1026) (hs : Extern.MathAsm.lt 4604544271217802189 f = false) (Hf : Iv f (576460752303423488) (648518346341351424)) : ∃ z, Extern.MathLog.archLog #[.float .f64 x] = pure (.float .f64 z) ∧ Iv z (2388425671718207488) (2542299100026503168) := by
  have Hk := iv_int ((n : Int) - 1022) (4) (4) (by omega) (by omega) (by omega) (by omega)
  have e1 : (x % 2 ^ 63 == 0) = false := by simp; omega
  have e2 : ¬ x ≥ 2 ^ 63 := by omega
  have e3 : ¬ x ≥ Extern.MathAsm.posInf := by unfold Extern.MathAsm.posInf; omega
  have e4 : x % 2 ^ 52 + Extern.MathAsm.half = f := hf
  have e5 : (Int.ofNat (x / 2 ^ 52) - 0x3FE) = (n : Int) - 1022 := by rw [show x / 2 ^ 52 = n from hn]; rfl
  delta Extern.MathLog.archLog
  dsimp only
  rw [log_m]
  simp only [e1, e4, e5, if_neg e2, if_neg e3, hs, Bool.false_eq_true, if_false, if_true, Bool.not_false]
  simp only [Extern.MathAsm.one, Extern.MathAsm.two, Extern.MathAsm.half]
  generalize Extern.MathAsm.ofInt32 ((n : Int) - 1022) = k at *
  have Hone : Iv 4607182418800017408 (1152921504606846976) (1152921504606846976) := iv_word' false 60 0 (1152921504606846976) (1152921504606846976) (by decide) (by decide) (by decide) (by decide) (by decide)
  have Htwo : Iv 4611686018427387904 (2305843009213693952) (2305843009213693952) := iv_word' false 61 0 (2305843009213693952) (2305843009213693952) (by decide) (by decide) (by decide) (by decide) (by decide)
  have Hhalf : Iv 4602678819172646912 (576460752303423488) (576460752303423488) := iv_word' false 59 0 (576460752303423488) (576460752303423488) (by decide) (by decide) (by decide) (by decide) (by decide)
  have Hz : Iv 0 0 0 := iv_zero
  obtain ⟨k1, Ek1, Hk1⟩ := op_sub Hk Hone (3458764513820540928) (3458764513820540928) (fit_of _ 3 60 (by decide) (by decide) (by decide)) (fit_of _ 3 60 (by decide) (by decide) (by decide)) (by decide) (by decide)
  simp only [Ek1, pure_bind]
  obtain ⟨o, Eo, Ho⟩ := op_add Hone Hone (2305843009213693952) (2305843009213693952) (fit_of _ 1 61 (by decide) (by decide) (by decide)) (fit_of _ 1 61 (by decide) (by decide) (by decide)) (by decide) (by decide)
  simp only [Eo, pure_bind]
  obtain ⟨f2, Ef2, Hf2⟩ := op_mul Hf Ho (1152921504606846976) (1297036692682702848) (fit_of _ 1 60 (by decide) (by decide) (by decide)) (fit_of _ 9 57 (by decide) (by decide) (by decide)) (by decide) (by decide) (by decide) (by decide) (by decide) (by decide) (by decide) (by decide)
  simp only [Ef2, pure_bind]
  obtain ⟨ff, Eff, Hff⟩ := op_sub Hf2 Hone (0) (144115188075855872) fit_zero (fit_of _ 1 57 (by decide) (by decide) (by decide)) (by decide) (by decide)
  simp only [Eff, pure_bind]
  obtain ⟨d, Ed, Hd⟩ := op_add Htwo Hff (2305843009213693952) (2449958197289549824) (fit_of _ 1 61 (by decide) (by decide) (by decide)) (fit_of _ 17 57 (by decide) (by decide) (by decide)) (by decide) (by decide)
  simp only [Ed, pure_bind]
  obtain ⟨s, Es, Hs⟩ := op_div Hff Hd (by decide) (0) (72057594038976512) fit_zero (fit_of _ 68719476737 20 (by decide) (by decide) (by decide)) (by decide) (by decide) (by decide) (by decide)
  simp only [Es, pure_bind]
  obtain ⟨s2, Es2, Hs2⟩ := op_mul Hs Hs (0) (4503599628419072) fit_zero (fit_of _ 4294967297 20 (by decide) (by decide) (by decide)) (by decide) (by decide) (by decide) (by decide) (by decide) (by decide) (by decide) (by decide)
  simp only [Es2, pure_bind]
  obtain ⟨s4, Es4, Hs4⟩ := op_mul Hs2 Hs2 (0) (17592187092992) fit_zero (fit_of _ 16777217 20 (by decide) (by decide) (by decide)) (by decide) (by decide) (by decide) (by decide) (by decide) (by decide) (by decide) (by decide)
  simp only [Es4, pure_bind]
  have Hc0 : Iv 4594499633228436036 (170611614012145664) (170611614013194240) := iv_word' false 57 828013310530116 (170611614012145664) (170611614013194240) (by decide) (by decide) (by decide) (by decide) (by decide)
  have Hc1 : Iv 4595719342595441630 (209642313756966912) (209642313758015488) := iv_word' false 57 2047722677535710 (209642313756966912) (209642313758015488) (by decide) (by decide) (by decide) (by decide) (by decide)
  have Hc2 : Iv 4598818590951641945 (329406146158788608) (329406146159837184) := iv_word' false 58 643371406365529 (329406146158788608) (329406146159837184) (by decide) (by decide) (by decide) (by decide) (by decide)
  have Hc3 : Iv 4604180019048437139 (768614336403865600) (768614336404914176) := iv_word' false 59 1501199875790227 (768614336403865600) (768614336404914176) (by decide) (by decide) (by decide) (by decide) (by decide)
  have Hc4 : Iv 4594685411790997151 (176556528014196736) (176556528015245312) := iv_word' false 57 1013791873091231 (176556528014196736) (176556528015245312) (by decide) (by decide) (by decide) (by decide) (by decide)
  have Hc5 : Iv 4597174411056806063 (256204504519671808) (256204504520720384) := iv_word' false 57 3502791138900143 (256204504519671808) (256204504520720384) (by decide) (by decide) (by decide) (by decide) (by decide)
  have Hc6 : Iv 4600877379321592324 (461168601834979328) (461168601836027904) := iv_word' false 58 2702159776315908 (461168601834979328) (461168601836027904) (by decide) (by decide) (by decide) (by decide) (by decide)
  have Hc7 : Iv 4461442080421002358 (219152384) (220200960) := iv_word' false 27 2878449324211318 (219152384) (220200960) (by decide) (by decide) (by decide) (by decide) (by decide)
  have Hc8 : Iv 4604418534311723008 (799144290105163776) (799144290105163776) := iv_word' false 59 1739715139076096 (799144290105163776) (799144290105163776) (by decide) (by decide) (by decide) (by decide) (by decide)
  obtain ⟨a1, Ea1, Ha1⟩ := op_mul Hc0 Hs4 (0) (2603326898176) fit_zero (fit_of _ 1241363 21 (by decide) (by decide) (by decide)) (by decide) (by decide) (by decide) (by decide) (by decide) (by decide) (by decide) (by decide)
  simp only [Ea1, pure_bind]
  obtain ⟨a2, Ea2, Ha2⟩ := op_add Ha1 Hc1 (209642313756966912) (209644917084913664) (fit_of _ 99965245131 21 (by decide) (by decide) (by decide)) (fit_of _ 199932972989 20 (by decide) (by decide) (by decide)) (by decide) (by decide)
  simp only [Ea2, pure_bind]
  obtain ⟨a3, Ea3, Ha3⟩ := op_mul Ha2 Hs4 (0) (3198928551936) fit_zero (fit_of _ 190671 24 (by decide) (by decide) (by decide)) (by decide) (by decide) (by decide) (by decide) (by decide) (by decide) (by decide) (by decide)
  simp only [Ea3, pure_bind]
  obtain ⟨a4, Ea4, Ha4⟩ := op_add Ha3 Hc2 (329406146158788608) (329409345088389120) (fit_of _ 157073090629 21 (by decide) (by decide) (by decide)) (fit_of _ 314149231995 20 (by decide) (by decide) (by decide)) (by decide) (by decide)
  simp only [Ea4, pure_bind]
  obtain ⟨a5, Ea5, Ha5⟩ := op_mul Ha4 Hs4 (0) (5026388901888) fit_zero (fit_of _ 2396769 21 (by decide) (by decide) (by decide)) (by decide) (by decide) (by decide) (by decide) (by decide) (by decide) (by decide) (by decide)
  simp only [Ea5, pure_bind]
  obtain ⟨a6, Ea6, Ha6⟩ := op_add Ha5 Hc3 (768614336403865600) (768619362793816064) (fit_of _ 366503875925 21 (by decide) (by decide) (by decide)) (fit_of _ 733012545389 20 (by decide) (by decide) (by decide)) (by decide) (by decide)
  simp only [Ea6, pure_bind]
  obtain ⟨t1, Et1, Ht1⟩ := op_mul Hs2 Ha6 (0) (3002419387564032) fit_zero (fit_of _ 2863330257 20 (by decide) (by decide) (by decide)) (by decide) (by decide) (by decide) (by decide) (by decide) (by decide) (by decide) (by decide)
  simp only [Et1, pure_bind]
  obtain ⟨b1, Eb1, Hb1⟩ := op_mul Hc4 Hs4 (0) (2694039207936) fit_zero (fit_of _ 642309 22 (by decide) (by decide) (by decide)) (by decide) (by decide) (by decide) (by decide) (by decide) (by decide) (by decide) (by decide)
  simp only [Eb1, pure_bind]
  obtain ⟨b2, Eb2, Hb2⟩ := op_add Hb1 Hc5 (256204504519671808) (256207198559928320) (fit_of _ 61083913927 22 (by decide) (by decide) (by decide)) (fit_of _ 244338224945 20 (by decide) (by decide) (by decide)) (by decide) (by decide)
  simp only [Eb2, pure_bind]
  obtain ⟨b3, Eb3, Hb3⟩ := op_mul Hb2 Hs4 (0) (3909412192256) fit_zero (fit_of _ 1864153 21 (by decide) (by decide) (by decide)) (by decide) (by decide) (by decide) (by decide) (by decide) (by decide) (by decide) (by decide)
  simp only [Eb3, pure_bind]
  obtain ⟨b4, Eb4, Hb4⟩ := op_add Hb3 Hc6 (461168601834979328) (461172511248220160) (fit_of _ 439804651103 20 (by decide) (by decide) (by decide)) (fit_of _ 219904189705 21 (by decide) (by decide) (by decide)) (by decide) (by decide)
  simp only [Eb4, pure_bind]
  obtain ⟨t2, Et2, Ht2⟩ := op_mul Hs4 Hb4 (0) (7036934815744) fit_zero (fit_of _ 209717 25 (by decide) (by decide) (by decide)) (by decide) (by decide) (by decide) (by decide) (by decide) (by decide) (by decide) (by decide)
  simp only [Et2, pure_bind]
  obtain ⟨r, Er, Hr⟩ := op_add Ht1 Ht2 (0) (3009456322379776) fit_zero (fit_of _ 2870041201 20 (by decide) (by decide) (by decide)) (by decide) (by decide)
  simp only [Er, pure_bind]
  obtain ⟨h1, Eh1, Hh1⟩ := op_mul Hhalf Hff (0) (72057594037927936) fit_zero (fit_of _ 1 56 (by decide) (by decide) (by decide)) (by decide) (by decide) (by decide) (by decide) (by decide) (by decide) (by decide) (by decide)
  simp only [Eh1, pure_bind]
  obtain ⟨hq, Ehq, Hhq⟩ := op_mul Hh1 Hff (0) (9007199254740992) fit_zero (fit_of _ 1 53 (by decide) (by decide) (by decide)) (by decide) (by decide) (by decide) (by decide) (by decide) (by decide) (by decide) (by decide)
  simp only [Ehq, pure_bind]
  obtain ⟨i1, Ei1, Hi1⟩ := op_add Hr Hhq (0) (12016655577120768) fit_zero (fit_of _ 11459975793 20 (by decide) (by decide) (by decide)) (by decide) (by decide)
  simp only [Ei1, pure_bind]
  obtain ⟨i2, Ei2, Hi2⟩ := op_mul Hs Hi1 (0) (751040974553088) fit_zero (fit_of _ 89531061 23 (by decide) (by decide) (by decide)) (by decide) (by decide) (by decide) (by decide) (by decide) (by decide) (by decide) (by decide)
  simp only [Ei2, pure_bind]
  obtain ⟨i3, Ei3, Hi3⟩ := op_mul Hc7 Hk1 (657457152) (660602880) (fit_of _ 627 20 (by decide) (by decide) (by decide)) (fit_of _ 315 21 (by decide) (by decide) (by decide)) (by decide) (by decide) (by decide) (by decide) (by decide) (by decide) (by decide) (by decide)
  simp only [Ei3, pure_bind]
  obtain ⟨inn, Einn, Hinn⟩ := op_add Hi2 Hi3 (657457152) (751041635155968) (fit_of _ 627 20 (by decide) (by decide) (by decide)) (fit_of _ 358124559 21 (by decide) (by decide) (by decide)) (by decide) (by decide)
  simp only [Einn, pure_bind]
  obtain ⟨j1, Ej1, Hj1⟩ := op_mul Hk1 Hc8 (2397432870315491328) (2397432870315491328) (fit_of _ 8931133413 28 (by decide) (by decide) (by decide)) (fit_of _ 8931133413 28 (by decide) (by decide) (by decide)) (by decide) (by decide) (by decide) (by decide) (by decide) (by decide) (by decide) (by decide)
  simp only [Ej1, pure_bind]
  obtain ⟨j2, Ej2, Hj2⟩ := op_sub Hhq Hinn (-751041635155968) (9007198597283840) (fit_of _ 358124559 21 (by decide) (by decide) (by decide)) (fit_of _ 8589933965 20 (by decide) (by decide) (by decide)) (by decide) (by decide)
  simp only [Ej2, pure_bind]
  obtain ⟨j3, Ej3, Hj3⟩ := op_sub Hj2 Hff (-144866229711011840) (9007198597283840) (fit_of _ 69077601295 21 (by decide) (by decide) (by decide)) (fit_of _ 8589933965 20 (by decide) (by decide) (by decide)) (by decide) (by decide)
  simp only [Ej3, pure_bind]
  obtain ⟨res, Eres, Hres⟩ := op_sub Hj1 Hj3 (2388425671718207488) (2542299100026503168) (fit_of _ 2277780219763 20 (by decide) (by decide) (by decide)) (fit_of _ 1212262678159 21 (by decide) (by decide) (by decide)) (by decide) (by decide)
  simp only [Eres, pure_bind]
  exact ⟨res, rfl, Hres⟩

end Go.Proofs.Ytaodoehkkfkjbad
