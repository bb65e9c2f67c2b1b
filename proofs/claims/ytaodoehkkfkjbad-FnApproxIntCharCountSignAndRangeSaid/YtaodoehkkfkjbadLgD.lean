/-
  From the bounds on math.archLog to the count: product, floor, greater of nought and it, whole part; plain, no program.
-/
import Derived.Test.YtaodoehkkfkjbadRows
import Derived.WalkKit
import Derived.ProofKit
import Derived.OpenShut
import Derived.Test.YtaodoehkkfkjbadFltM
import Derived.Test.YtaodoehkkfkjbadLgA
import Derived.Test.YtaodoehkkfkjbadLgB
import Derived.Test.YtaodoehkkfkjbadLgC
import Ieee.Arith
import Derived.Laws.FloatArith
import GoSem.Extern.MathLog
import GoSem.Extern.MathFloor
import GoSem.Extern.MathDim
import GoSem.Conv.FloatToInt
namespace Go.Proofs.Ytaodoehkkfkjbad
open Go.ChangeShapes Go.WideShapes Go.ChangeAt Go.RowKit

set_option linter.unusedVariables false

theorem ord_pos (a b : Nat) (ha : a < 9218868437227405312) (hb : b < 9218868437227405312) : Extern.MathAsm.lt a b = decide (a < b) := by
  have e : FloatKind.f64.format.order a b = some (compare (val a) (val b)) := by
    have h := order_wd false false a b ha hb
    simp only [wd, sg, Bool.false_eq_true, if_false] at h
    rw [show FloatKind.f64.format = Ieee.double from rfl, h]
    congr 1
    rcases Nat.lt_trichotomy (val a) (val b) with h1 | h1 | h1
    · rw [Nat.compare_eq_lt.2 h1, Int.compare_eq_lt.2 (by omega)]
    · rw [h1]; simp
    · rw [Nat.compare_eq_gt.2 h1, Int.compare_eq_gt.2 (by omega)]
  unfold Extern.MathAsm.lt
  rw [e]
  by_cases h : a < b
  · rw [Nat.compare_eq_lt.2 (val_lt _ _ h), decide_eq_true h]; rfl
  · rw [decide_eq_false h]
    have h1 := val_le b a (by omega)
    cases hc : compare (val a) (val b) with
    | lt => rw [Nat.compare_eq_lt] at hc; omega
    | eq => rfl
    | gt => rfl
theorem iv_half (F lo hi : Nat) (h0 : F < 4503599627370496) (h1 : lo * 4503599627370496 ≤ (4503599627370496 + F) * 576460752303423488) (h2 : (4503599627370496 + F) * 576460752303423488 ≤ hi * 4503599627370496) : Iv (F + 4602678819172646912) lo hi := by
  have e : F + 4602678819172646912 = wd false ((963 + 59) * 4503599627370496 + F) := by unfold wd; simp only [Bool.false_eq_true, if_false]; omega
  rw [e]
  refine iv_word false 59 F lo hi (by omega) h0 ?_ ?_
  · rw [sgf, show 2 ^ 59 = 576460752303423488 by decide]; omega
  · rw [sgf, show 2 ^ 59 = 576460752303423488 by decide]; omega
/-- Log of a number above nought: its bounds; and below nine. -/
theorem log_all (x : Nat) (h0 : x ≠ 0) (hx : x < 9218868437227405312) : ∃ y, Extern.MathLog.archLog #[.float .f64 x] = pure (.float .f64 y) ∧ Iv y (-900000000000000000000) 818400000000000000000 ∧ (x < 4621256167635550208 → Iv y (-900000000000000000000) 2543000000000000000) := by
  obtain ⟨n, hn⟩ : ∃ n, x / 4503599627370496 = n := ⟨_, rfl⟩
  obtain ⟨F, hF⟩ : ∃ F, x % 4503599627370496 = F := ⟨_, rfl⟩
  obtain ⟨f, hf⟩ : ∃ f, x % 4503599627370496 + 4602678819172646912 = f := ⟨_, rfl⟩
  have hFb : F < 4503599627370496 := by omega
  have hfF : F + 4602678819172646912 = f := by omega
  have hlt := ord_pos 4604544271217802189 f (by omega) (by omega)
  by_cases hb : 4604544271217802189 < f
  · rw [decide_eq_true hb] at hlt
    have Hf := iv_half F 815238614082387968 1152921504606846976 hFb (by omega) (by omega)
    rw [hfF] at Hf
    by_cases h9 : x < 4621256167635550208
    · have hnn : n ≤ 1025 := by omega
      obtain ⟨z, e, i⟩ := log_l1 x n f h0 hx hn hf (by omega) hnn hlt Hf
      exact ⟨z, e, i.wide (by decide) (by decide), fun _ => i.wide (by decide) (by decide)⟩
    · obtain ⟨z, e, i⟩ := log_g1 x n f h0 hx hn hf (by omega) (by omega) hlt Hf
      exact ⟨z, e, i.wide (by decide) (by decide), fun h => absurd h h9⟩
  · rw [decide_eq_false hb] at hlt
    by_cases h9 : x < 4621256167635550208
    · by_cases hnn : n ≤ 1025
      · have Hf := iv_half F 576460752303423488 815238614083436544 hFb (by omega) (by omega)
        rw [hfF] at Hf
        obtain ⟨z, e, i⟩ := log_l2 x n f h0 hx hn hf (by omega) hnn hlt Hf
        exact ⟨z, e, i.wide (by decide) (by decide), fun _ => i.wide (by decide) (by decide)⟩
      · have Hf := iv_half F 576460752303423488 648518346341351424 hFb (by omega) (by omega)
        rw [hfF] at Hf
        obtain ⟨z, e, i⟩ := log_l3 x n f h0 hx hn hf (by omega) (by omega) hlt Hf
        exact ⟨z, e, i.wide (by decide) (by decide), fun _ => i.wide (by decide) (by decide)⟩
    · have Hf := iv_half F 576460752303423488 815238614083436544 hFb (by omega) (by omega)
      rw [hfF] at Hf
      obtain ⟨z, e, i⟩ := log_g2 x n f h0 hx hn hf (by omega) (by omega) hlt Hf
      exact ⟨z, e, i.wide (by decide) (by decide), fun h => absurd h h9⟩
theorem iv_c10 : Iv 4601495173785380110 500707447517741056 500707447518789632 := iv_word' false 58 3319954240103694 _ _ (by decide) (by decide) (by decide) (by decide) (by decide)
theorem cut_down_pos (n d : Nat) : Ieee.Toward.down.cut false n d = n / 2 ^ d := cut_zero false n d
theorem cut_down_le (s : Bool) (n d c : Nat) (h : n ≤ c * 2 ^ d) (hc : 1 ≤ c) : Ieee.Toward.down.cut s n d ≤ c := by
  unfold Ieee.Toward.cut
  simp only [Nat.shiftLeft_eq, Nat.one_mul]
  by_cases hd : n.log2 + 2 < d
  · rw [Nat.min_eq_right (by omega)]
    have h1 : n < 2 ^ (n.log2 + 1) := Nat.lt_log2_self
    have h2 : 2 ^ (n.log2 + 2) = 2 * 2 ^ (n.log2 + 1) := by rw [Nat.pow_succ]; omega
    have h3 : n / 2 ^ (n.log2 + 2) = 0 := Nat.div_eq_of_lt (by omega)
    rw [h3]
    have := Bool.toNat_le (s && (n % 2 ^ (n.log2 + 2)) != 0)
    omega
  · rw [Nat.min_eq_left (by omega)]
    have hg : 0 < 2 ^ d := Nat.two_pow_pos d
    generalize 2 ^ d = g at *
    by_cases h3 : n % g = 0
    · have h4 : n / g ≤ c := by
        have := Nat.div_le_div_right (c := g) h
        rwa [Nat.mul_div_cancel _ hg] at this
      rw [h3]; simp; exact h4
    · have h4 : n / g < c := by
        rw [Nat.div_lt_iff_lt_mul hg]
        rcases Nat.lt_or_ge n (c * g) with h5 | h5
        · exact h5
        · exfalso; have e : n = c * g := by omega
          rw [e, Nat.mul_mod_left] at h3; exact h3 rfl
      have := Bool.toNat_le (s && (n % g) != 0)
      omega
theorem log10_all (x : Nat) (h0 : x ≠ 0) (hx : x < 9218868437227405312) : ∃ y z, Extern.MathLog.archLog #[.float .f64 x] = pure (.float .f64 y) ∧ Ieee.double.mul y 4601495173785380110 = some z ∧ Iv z (-391993311566327971840) 355676284171212292096 ∧ (x < 4621256167635550208 → Iv z (-391993311566327971840) 1116892707587883008) := by
  obtain ⟨y, e, i, j⟩ := log_all x h0 hx
  obtain ⟨z, ez, iz⟩ := iv_mul i iv_c10 (-391993311566327971840) 355676284171212292096 (fit_of _ 85 62 (by decide) (by decide) (by decide)) (fit_of _ 617 59 (by decide) (by decide) (by decide)) (by decide) (by decide) (by decide) (by decide) (by decide) (by decide) (by decide) (by decide)
  refine ⟨y, z, e, ez, iz, fun h => ?_⟩
  obtain ⟨z', ez', iz'⟩ := iv_mul (j h) iv_c10 (-391993311566327971840) 1116892707587883008 (fit_of _ 85 62 (by decide) (by decide) (by decide)) (fit_of _ 31 55 (by decide) (by decide) (by decide)) (by decide) (by decide) (by decide) (by decide) (by decide) (by decide) (by decide) (by decide)
  rw [ez] at ez'
  exact Option.some.inj ez' ▸ iz'
theorem fl_m (A : Nat → Sem Value) (B : Array Value → Sem Value) (x : Nat) : Extern.MathFloor.toIntegral.match_2 (fun _ => Sem Value) #[.float .f64 x] A B = A x := rfl
theorem mx_m (A : Nat → Nat → Sem Value) (B : Array Value → Sem Value) (x y : Nat) : Extern.MathDim.pick.match_1 (fun _ => Sem Value) #[.float .f64 x, .float .f64 y] A B = A x y := rfl
/-- m * 2^e units of 2^-1074, against c. -/
theorem cross {m a b e c T : Nat} (h : a + T = e + b) (hv : m * 2 ^ e ≤ c * 2 ^ T) : m * 2 ^ a ≤ c * 2 ^ b := by
  refine Nat.le_of_mul_le_mul_right ?_ (Nat.two_pow_pos T)
  have e1 : m * 2 ^ a * 2 ^ T = m * 2 ^ e * 2 ^ b := by rw [Nat.mul_assoc, ← Nat.pow_add, h, Nat.pow_add, Nat.mul_assoc]
  have e2 : c * 2 ^ b * 2 ^ T = c * 2 ^ T * 2 ^ b := by rw [Nat.mul_assoc, Nat.mul_assoc, Nat.mul_comm (2 ^ b)]
  rw [e1, e2]
  exact Nat.mul_le_mul_right _ hv
theorem cross_lt {m a b e c T : Nat} (h : a + T = e + b) (hv : m * 2 ^ e < c * 2 ^ T) : m * 2 ^ a < c * 2 ^ b := by
  refine Nat.lt_of_mul_lt_mul_right (a := 2 ^ T) ?_
  have e1 : m * 2 ^ a * 2 ^ T = m * 2 ^ e * 2 ^ b := by rw [Nat.mul_assoc, ← Nat.pow_add, h, Nat.pow_add, Nat.mul_assoc]
  have e2 : c * 2 ^ b * 2 ^ T = c * 2 ^ T * 2 ^ b := by rw [Nat.mul_assoc, Nat.mul_assoc, Nat.mul_comm (2 ^ b)]
  rw [e1, e2]
  exact Nat.mul_lt_mul_of_pos_right hv (Nat.two_pow_pos _)
theorem floor_iv (z : Nat) (hi : Int) (K : Nat) (h : Iv z (-391993311566327971840) hi) (hK : hi < (K + 1 : Nat) * 1152921504606846976) (hK2 : K ≤ 400) :
    ∃ u, Extern.MathFloor.toIntegral "math.archFloor" .down #[.float .f64 z] = pure (.float .f64 u) ∧ Iv u (-461168601842738790400) ((K : Int) * 1152921504606846976) := by
  obtain ⟨s, r, rfl, hr, z1, z2⟩ := h
  delta Extern.MathFloor.toIntegral
  rw [fl_m, show FloatKind.f64.decode (wd s r) = _ from read_wd s r hr]
  dsimp only
  refine ⟨_, rfl, ?_⟩
  obtain ⟨a, ha⟩ : ∃ a, a = (-1074 + (expo r : Int)).toNat := ⟨_, rfl⟩
  obtain ⟨b, hb⟩ : ∃ b, b = (-(-1074 + (expo r : Int))).toNat := ⟨_, rfl⟩
  show Iv (Ieee.double.nearest s (Ieee.Toward.down.cut s (mant r <<< (-1074 + (expo r : Int)).toNat) (-(-1074 + (expo r : Int))).toNat) 0) _ _
  rw [← ha, ← hb, Nat.shiftLeft_eq]
  obtain ⟨T, hT⟩ : ∃ T, T = 1074 := ⟨_, rfl⟩
  have hab : a + T = expo r + b := by omega
  have hP := pw_pos 1014
  have e6 : (2 ^ T : Nat) = 1152921504606846976 * pw 1014 := by rw [← pw_eq T, hT]; exact pw60
  rw [val_eq] at z1 z2
  have fl : Fit (Int.natAbs (-461168601842738790400)) := fit_of _ 100 62 (by decide) (by decide) (by decide)
  have fh : Fit (Int.natAbs ((K : Int) * 1152921504606846976)) := by
    rw [Int.natAbs_mul]; exact fit_of _ K 60 (by omega) (by omega) rfl
  have ep : ((pw 1074 : Nat) : Int) = 1152921504606846976 * ((pw 1014 : Nat) : Int) := by rw [pw60, Int.natCast_mul]; rfl
  cases s
  · rw [sgf] at z1 z2
    rw [cut_down_pos]
    have hN : mant r * 2 ^ a / 2 ^ b ≤ K := by
      have h1 : mant r * 2 ^ a < (K + 1) * 2 ^ b := by
        refine cross_lt hab ?_
        rw [e6]
        have h2 : hi * ((pw 1014 : Nat) : Int) < ((K + 1 : Nat) : Int) * 1152921504606846976 * ((pw 1014 : Nat) : Int) := Int.mul_lt_mul_of_pos_right hK (by omega)
        have h3 : ((mant r * 2 ^ expo r : Nat) : Int) < (((K + 1) * (1152921504606846976 * pw 1014) : Nat) : Int) := by
          rw [← Nat.mul_assoc, Int.natCast_mul _ (pw 1014), Int.natCast_mul (K + 1)]
          exact Int.lt_of_le_of_lt z2 h2
        exact Int.ofNat_lt.1 h3
      have := (Nat.div_lt_iff_lt_mul (Nat.two_pow_pos b)).2 h1
      omega
    obtain ⟨N, hNe⟩ : ∃ N, N = mant r * 2 ^ a / 2 ^ b := ⟨_, rfl⟩
    rw [← hNe] at hN ⊢
    refine iv_write false N 0 0 1074 _ _ (by omega) fl fh ?_ ?_
    · rw [sgf]
      have : (0 : Int) ≤ ((N * pw 1074 : Nat) : Int) := Int.natCast_nonneg _
      have h5 : (-461168601842738790400 : Int) * ((pw 1014 : Nat) : Int) * ((pw 0 : Nat) : Int) ≤ 0 := by rw [pw_eq 0]; simp; omega
      omega
    · rw [sgf, Int.natCast_mul, ep, show pw 0 = 1 from rfl]
      have h5 : (N : Int) * (1152921504606846976 * ((pw 1014 : Nat) : Int)) ≤ (K : Int) * (1152921504606846976 * ((pw 1014 : Nat) : Int)) := Int.mul_le_mul_of_nonneg_right (by omega) (by omega)
      rw [← Int.mul_assoc (K : Int)] at h5
      simpa using h5
  · rw [sgt] at z1 z2
    have hN : Ieee.Toward.down.cut true (mant r * 2 ^ a) b ≤ 400 := by
      refine cut_down_le _ _ _ _ ?_ (by omega)
      refine cross hab ?_
      rw [e6]
      omega
    obtain ⟨N, hNe⟩ : ∃ N, N = Ieee.Toward.down.cut true (mant r * 2 ^ a) b := ⟨_, rfl⟩
    rw [← hNe] at hN ⊢
    refine iv_write true N 0 0 1074 _ _ (by omega) fl fh ?_ ?_
    · rw [sgt, Int.natCast_mul, ep, show pw 0 = 1 from rfl]
      have h5 : (N : Int) * (1152921504606846976 * ((pw 1014 : Nat) : Int)) ≤ 400 * (1152921504606846976 * ((pw 1014 : Nat) : Int)) := Int.mul_le_mul_of_nonneg_right (by omega) (by omega)
      have h6 : (-461168601842738790400 : Int) * ((pw 1014 : Nat) : Int) * ((1 : Nat) : Int) = -(400 * (1152921504606846976 * ((pw 1014 : Nat) : Int))) := by omega
      rw [h6]
      omega
    · rw [sgt]
      have : (0 : Int) ≤ ((N * pw 1074 : Nat) : Int) := Int.natCast_nonneg _
      have h5 : (0 : Int) ≤ (K : Int) * 1152921504606846976 * ((pw 1014 : Nat) : Int) * ((pw 0 : Nat) : Int) := Int.mul_nonneg (Int.mul_nonneg (by omega) (by omega)) (by omega)
      omega
theorem conv_iv (s : Bool) (q K : Nat) (hq : q < 9218868437227405312) (h0 : 0 ≤ sg s (val q)) (h1 : sg s (val q) ≤ (K : Int) * 1152921504606846976 * ((pw 1014 : Nat) : Int)) (hK : K ≤ 400) : ∃ n, floatToIntVal .f64 (wd s q) .i64 = some n ∧ 0 ≤ n ∧ n ≤ K := by
  have hP := pw_pos 1074
  have hn : 0 ≤ sg s (val q / pw 1074) ∧ sg s (val q / pw 1074) ≤ K := by
    cases s
    · rw [sgf] at h1 ⊢
      refine ⟨Int.natCast_nonneg _, ?_⟩
      have h2 : val q ≤ K * pw 1074 := by
        rw [pw60, ← Nat.mul_assoc]
        have h3 : ((val q : Nat) : Int) ≤ ((K * 1152921504606846976 * pw 1014 : Nat) : Int) := by
          rw [Int.natCast_mul, Int.natCast_mul]; exact h1
        exact Int.ofNat_le.1 h3
      have := Nat.div_le_of_le_mul (show val q ≤ pw 1074 * K by rw [Nat.mul_comm]; exact h2)
      omega
    · rw [sgt] at h0 ⊢
      have : val q = 0 := by omega
      rw [this, Nat.zero_div]
      omega
  refine ⟨_, ?_, hn⟩
  unfold floatToIntVal
  have e : (FloatKind.f64.decode (wd s q)).toInt .zero = some (sg s (val q / pw 1074)) := toInt_wd s q hq
  rw [e]
  generalize sg s (val q / pw 1074) = n at *
  have h64 : IntKind.i64.min ≤ n ∧ n ≤ IntKind.i64.max := by
    have a1 : IntKind.i64.min = -9223372036854775808 := by decide
    have a2 : IntKind.i64.max = 9223372036854775807 := by decide
    rw [a1, a2]; omega
  simp only [h64, and_self, if_true]
theorem max_iv (u K : Nat) (h : Iv u (-461168601842738790400) ((K : Int) * 1152921504606846976)) (hK : K ≤ 400) : ∃ v n, Extern.MathDim.pick "math.archMax" false .gt #[.float .f64 0, .float .f64 u] = pure (.float .f64 v) ∧ floatToIntVal .f64 v .i64 = some n ∧ 0 ≤ n ∧ n ≤ K := by
  obtain ⟨s, q, rfl, hq, u1, u2⟩ := h
  have hP := pw_pos 1014
  have hKP : (0 : Int) ≤ (K : Int) * 1152921504606846976 * ((pw 1014 : Nat) : Int) := Int.mul_nonneg (by omega) (by omega)
  have z0 : val 0 = 0 := by unfold val mant; simp
  obtain ⟨n0, c1, c2, c3⟩ := conv_iv false 0 K (by omega) (by rw [z0]; decide) (by rw [z0, sgf]; simpa using hKP) hK
  have d0 : FloatKind.f64.decode 0 = .number false 0 (-1074 + ((0 : Nat) : Int)) := by
    have := read_wd false 0 (by omega)
    have e1 : mant 0 = 0 := by decide
    have e2 : expo 0 = 0 := by decide
    rw [e1, e2] at this
    exact this
  have d1 : FloatKind.f64.decode (wd s q) = _ := read_wd s q hq
  delta Extern.MathDim.pick
  dsimp only
  rw [mx_m, d0, d1, order_num]
  have b1 : ∀ s m i, ((Ieee.Datum.number s m i) == Ieee.Datum.infinity false) = false := fun _ _ _ => by rw [beq_eq_false_iff_ne]; intro h; cases h
  rw [b1, b1]
  by_cases hm : mant q = 0
  · refine ⟨0, n0, ?_, c1, c2, c3⟩
    rw [hm]
    rfl
  · have b2 : (Ieee.Datum.number s (mant q) (-1074 + (expo q : Int))).isZero = false := by
      unfold Ieee.Datum.isZero
      split
      · next h => injection h with _ h _; exact absurd h hm
      · rfl
    rw [b2]
    simp only [Ieee.Datum.isNaN, Bool.or_self, Bool.false_eq_true, if_false, Bool.and_false, Nat.zero_mul, ← val_eq]
    by_cases hg : sg s (val q) < 0
    · refine ⟨0, n0, ?_, c1, c2, c3⟩
      rw [show sg false 0 = 0 from rfl, Int.compare_eq_gt.2 hg]
      rfl
    · obtain ⟨n, k1, k2, k3⟩ := conv_iv s q K hq (by omega) u2 hK
      refine ⟨wd s q, n, ?_, k1, k2, k3⟩
      have : (some (compare (sg false 0) (sg s (val q))) == some Ordering.gt) = false := by
        rw [show sg false 0 = 0 from rfl, beq_eq_false_iff_ne]
        intro h
        injection h with h
        exact hg (Int.compare_eq_gt.1 h)
      rw [this]
      rfl
/-- The count, for every number above nought. -/
theorem count_all (x : Nat) (h0 : x ≠ 0) (hx : x < 9218868437227405312) : ∃ y z u v n, Extern.MathLog.archLog #[.float .f64 x] = pure (.float .f64 y) ∧ Ieee.double.mul y 4601495173785380110 = some z ∧ Extern.MathFloor.toIntegral "math.archFloor" .down #[.float .f64 z] = pure (.float .f64 u) ∧
    Extern.MathDim.pick "math.archMax" false .gt #[.float .f64 0, .float .f64 u] = pure (.float .f64 v) ∧ floatToIntVal .f64 v .i64 = some n ∧ 0 ≤ n ∧ n ≤ 308 ∧ (x < 4621256167635550208 → n = 0) := by
  obtain ⟨y, z, e1, e2, i, j⟩ := log10_all x h0 hx
  by_cases h9 : x < 4621256167635550208
  · obtain ⟨u, e3, k⟩ := floor_iv z _ 0 (j h9) (by decide) (by omega)
    obtain ⟨v, n, e4, e5, h1, h2⟩ := max_iv u 0 k (by omega)
    exact ⟨y, z, u, v, n, e1, e2, e3, e4, e5, h1, by omega, fun _ => by omega⟩
  · obtain ⟨u, e3, k⟩ := floor_iv z _ 308 i (by decide) (by omega)
    obtain ⟨v, n, e4, e5, h1, h2⟩ := max_iv u 308 k (by omega)
    exact ⟨y, z, u, v, n, e1, e2, e3, e4, e5, h1, by omega, fun h => absurd h h9⟩

end Go.Proofs.Ytaodoehkkfkjbad
