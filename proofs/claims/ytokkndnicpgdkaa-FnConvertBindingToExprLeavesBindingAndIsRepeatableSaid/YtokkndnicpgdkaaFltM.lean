/-
  Lemmas shared by several laws of this seat; no statement of their own.
-/
import Derived.Test.YtokkndnicpgdkaaRows
import Derived.WalkKit
import Derived.ProofKit
import Derived.OpenShut
import Ieee.Arith
import Derived.Laws.FloatArith
namespace Go.Proofs.Ytokkndnicpgdkaa
open Go.ChangeShapes Go.WideShapes Go.ChangeAt Go.RowKit

set_option linter.unusedVariables false

/-! Floats of kind f64 as whole numbers of 2^-1074. -/
def mant (r : Nat) : Nat := if r < 4503599627370496 then r else 4503599627370496 + r % 4503599627370496
def expo (r : Nat) : Nat := if r < 4503599627370496 then 0 else r / 4503599627370496 - 1
def val (r : Nat) : Nat := mant r * 2 ^ expo r
/-- A power of two that nothing evaluates. -/
def pw (n : Nat) : Nat := 2 ^ n
theorem pw_pos (n : Nat) : 0 < pw n := Nat.two_pow_pos n
theorem pw_add (m n : Nat) : pw (m + n) = pw m * pw n := Nat.pow_add 2 m n
theorem d1 : Ieee.double.signWeight = 9223372036854775808 := by decide
theorem d2 : Ieee.double.binade = 4503599627370496 := by decide
theorem d3 : Ieee.double.infRung = 9218868437227405312 := by decide
theorem d4 : Ieee.double.leastPlace = -1074 := by decide
theorem read_pos (r : Nat) (h : r < 9218868437227405312) : Ieee.double.read r = .number false (mant r) (-1074 + (expo r : Int)) := by
  unfold Ieee.Format.read
  simp only [d1, d2, d3, d4]
  have q : r / 9223372036854775808 = 0 := by omega
  have q2 : r % 9223372036854775808 = r := by omega
  rw [q, q2]
  unfold mant expo
  by_cases hb : r < 4503599627370496
  · simp [hb]
  · simp [hb, h]
theorem read_neg (r : Nat) (h : r < 9218868437227405312) : Ieee.double.read (9223372036854775808 + r) = .number true (mant r) (-1074 + (expo r : Int)) := by
  unfold Ieee.Format.read
  simp only [d1, d2, d3, d4]
  have q : (9223372036854775808 + r) / 9223372036854775808 = 1 := by omega
  have q2 : (9223372036854775808 + r) % 9223372036854775808 = r := by omega
  rw [q, q2]
  unfold mant expo
  by_cases hb : r < 4503599627370496
  · simp [hb]
  · simp [hb, h]
theorem cut_even (s : Bool) (n : Nat) : Ieee.Toward.even.cut s n 0 = n := by
  unfold Ieee.Toward.cut
  simp [Nat.mod_one]
theorem cut_zero (s : Bool) (n k : Nat) : Ieee.Toward.zero.cut s n k = n / 2 ^ k := by
  unfold Ieee.Toward.cut
  simp only [Bool.toNat_false, Nat.add_zero, Nat.shiftLeft_eq, Nat.one_mul]
  by_cases h : k ≤ n.log2 + 2
  · rw [Nat.min_eq_left h]
  · rw [Nat.min_eq_right (by omega)]
    have h1 : n < 2 ^ (n.log2 + 1) := Nat.lt_log2_self
    have h2 : 2 ^ (n.log2 + 1) ≤ 2 ^ (n.log2 + 2) := Nat.pow_le_pow_right (by omega) (by omega)
    have h3 : 2 ^ (n.log2 + 1) ≤ 2 ^ k := Nat.pow_le_pow_right (by omega) (by omega)
    rw [Nat.div_eq_of_lt (by omega), Nat.div_eq_of_lt (by omega)]
/-- What fits is written exactly. -/
theorem near (s : Bool) (m k : Nat) (h0 : m ≠ 0) (hm : m < 9007199254740992) (hk : k + m.log2 ≤ 2097) :
    ∃ r, Ieee.double.nearest s m (-1074 + (k : Int)) = (if s then 9223372036854775808 + r else r) ∧ r < 9218868437227405312 ∧ val r = m * 2 ^ k := by
  have hl : m.log2 < 53 := (Nat.log2_lt h0).2 hm
  have lo : 2 ^ m.log2 ≤ m := Nat.log2_self_le h0
  have hi : m < 2 ^ (m.log2 + 1) := Nat.lt_log2_self
  generalize hg : m.log2 = lg at *
  unfold Ieee.Format.nearest
  rw [if_neg h0]
  have e52 : (Ieee.double.fractionBits : Int) = 52 := rfl
  simp only [d2, d3, d4, hg, e52]
  by_cases hc : 52 < k + lg
  · have e1 : max (-1074 + (k : Int) + (lg : Int) - 52) (-1074) = -1074 + ((k + lg - 52 : Nat) : Int) := by omega
    rw [e1]
    have e2 : (-1074 + (k : Int) - (-1074 + ((k + lg - 52 : Nat) : Int))).toNat = 52 - lg := by omega
    have e3 : (-1074 + ((k + lg - 52 : Nat) : Int) - (-1074 + (k : Int))).toNat = 0 := by omega
    have e4 : (-1074 + ((k + lg - 52 : Nat) : Int) - -1074).toNat = k + lg - 52 := by omega
    rw [e2, e3, e4, cut_even, Nat.shiftLeft_eq]
    have p1 : 2 ^ lg * 2 ^ (52 - lg) = 4503599627370496 := by rw [← Nat.pow_add, show lg + (52 - lg) = 52 by omega]
    have p2 : 2 ^ (lg + 1) * 2 ^ (52 - lg) = 9007199254740992 := by rw [← Nat.pow_add, show lg + 1 + (52 - lg) = 53 by omega]
    have q1 : 4503599627370496 ≤ m * 2 ^ (52 - lg) := by rw [← p1]; exact Nat.mul_le_mul_right _ lo
    have q2 : m * 2 ^ (52 - lg) < 9007199254740992 := by rw [← p2]; exact Nat.mul_lt_mul_of_pos_right hi (Nat.two_pow_pos _)
    have e5 : m * 2 ^ k = m * 2 ^ (52 - lg) * 2 ^ (k + lg - 52) := by rw [Nat.mul_assoc, ← Nat.pow_add, show 52 - lg + (k + lg - 52) = k by omega]
    rw [e5]
    generalize m * 2 ^ (52 - lg) = K at *
    generalize hL : k + lg - 52 = L at *
    have hLb : L ≤ 2045 := by omega
    refine ⟨L * 4503599627370496 + K, ?_, by omega, ?_⟩
    · rw [Nat.min_eq_left (by omega)]
      unfold Ieee.Format.word
      rw [d1]
    · unfold val mant expo
      rw [if_neg (by omega), if_neg (by omega)]
      have r1 : (L * 4503599627370496 + K) % 4503599627370496 = K - 4503599627370496 := by omega
      have r2 : (L * 4503599627370496 + K) / 4503599627370496 = L + 1 := by omega
      rw [r1, r2, show 4503599627370496 + (K - 4503599627370496) = K by omega, show L + 1 - 1 = L by omega]
  · have e1 : max (-1074 + (k : Int) + (lg : Int) - 52) (-1074) = -1074 := by omega
    rw [e1]
    have e2 : (-1074 + (k : Int) - -1074).toNat = k := by omega
    have e3 : (-1074 - (-1074 + (k : Int))).toNat = 0 := by omega
    have e4 : ((-1074 : Int) - -1074).toNat = 0 := by omega
    rw [e2, e3, e4, cut_even, Nat.shiftLeft_eq]
    have q2 : m * 2 ^ k < 9007199254740992 := by
      have : m * 2 ^ k < 2 ^ (lg + 1) * 2 ^ k := Nat.mul_lt_mul_of_pos_right hi (Nat.two_pow_pos _)
      rw [← Nat.pow_add] at this
      have h2 : 2 ^ (lg + 1 + k) ≤ 2 ^ 53 := Nat.pow_le_pow_right (by omega) (by omega)
      have h3 : 2 ^ 53 = 9007199254740992 := by decide
      omega
    obtain ⟨K, hK⟩ : ∃ K, K = m * 2 ^ k := ⟨_, rfl⟩
    rw [← hK] at q2 ⊢
    clear hK
    refine ⟨K, ?_, by omega, ?_⟩
    · rw [Nat.zero_mul, Nat.zero_add, Nat.min_eq_left (show K ≤ 9218868437227405312 by omega)]
      unfold Ieee.Format.word
      rw [d1]
    · unfold val mant expo
      by_cases hK : K < 4503599627370496
      · rw [if_pos hK, if_pos hK]; simp
      · rw [if_neg hK, if_neg hK]
        have r1 : K % 4503599627370496 = K - 4503599627370496 := by omega
        have r2 : K / 4503599627370496 = 1 := by omega
        rw [r1, r2]; omega
theorem nearP (s : Bool) (m k : Nat) (h0 : m ≠ 0) (hm : m < 9007199254740992) (hk : k + m.log2 ≤ 2097) :
    ∃ r, Ieee.double.nearest s m (-1074 + (k : Int)) = (if s then 9223372036854775808 + r else r) ∧ r < 9218868437227405312 ∧ val r = m * pw k := near s m k h0 hm hk
/-- A sign and a magnitude as an integer. -/
def sg (s : Bool) (v : Nat) : Int := if s then -(v : Int) else v
theorem signed_sg (s : Bool) (m u : Nat) : Ieee.signed s m u = sg s (m * 2 ^ u) := by
  unfold Ieee.signed sg; rw [Nat.shiftLeft_eq]
theorem sg_mul (s : Bool) (v c : Nat) : sg s (v * c) = sg s v * (c : Int) := by
  unfold sg; cases s <;> simp [Int.neg_mul]
theorem cmp_mul (x y : Int) (c : Nat) (hc : 0 < c) : compare (x * (c : Int)) (y * (c : Int)) = compare x y := by
  have hc' : (0 : Int) < c := by omega
  rcases Int.lt_trichotomy x y with h | h | h
  · rw [Int.compare_eq_lt.2 h, Int.compare_eq_lt.2 (Int.mul_lt_mul_of_pos_right h hc')]
  · subst h; simp
  · rw [Int.compare_eq_gt.2 h, Int.compare_eq_gt.2 (Int.mul_lt_mul_of_pos_right h hc')]
theorem order_num (s t : Bool) (m n a b : Nat) : (Ieee.Datum.number s m (-1074 + (a : Int))).order (.number t n (-1074 + (b : Int))) = some (compare (sg s (m * 2 ^ a)) (sg t (n * 2 ^ b))) := by
  unfold Ieee.Datum.order
  simp only [signed_sg]
  have e : min (-1074 + (a : Int)) (-1074 + (b : Int)) = -1074 + ((min a b : Nat) : Int) := by omega
  have e1 : (-1074 + (a : Int) - (-1074 + ((min a b : Nat) : Int))).toNat = a - min a b := by omega
  have e2 : (-1074 + (b : Int) - (-1074 + ((min a b : Nat) : Int))).toNat = b - min a b := by omega
  rw [e, e1, e2]
  have f1 : m * 2 ^ a = m * 2 ^ (a - min a b) * 2 ^ (min a b) := by rw [Nat.mul_assoc, ← Nat.pow_add, show a - min a b + min a b = a by omega]
  have f2 : n * 2 ^ b = n * 2 ^ (b - min a b) * 2 ^ (min a b) := by rw [Nat.mul_assoc, ← Nat.pow_add, show b - min a b + min a b = b by omega]
  rw [f1, f2, sg_mul s (m * 2 ^ (a - min a b)), sg_mul t (n * 2 ^ (b - min a b)), cmp_mul _ _ _ (Nat.two_pow_pos _)]
/-- The word of a sign and a rung. -/
def wd (s : Bool) (r : Nat) : Nat := if s then 9223372036854775808 + r else r
theorem read_wd (s : Bool) (r : Nat) (h : r < 9218868437227405312) : Ieee.double.read (wd s r) = .number s (mant r) (-1074 + (expo r : Int)) := by
  cases s
  · exact read_pos r h
  · exact read_neg r h
theorem order_wd (s t : Bool) (a b : Nat) (ha : a < 9218868437227405312) (hb : b < 9218868437227405312) : Ieee.double.order (wd s a) (wd t b) = some (compare (sg s (val a)) (sg t (val b))) := by
  unfold Ieee.Format.order
  rw [read_wd s a ha, read_wd t b hb, order_num]; rfl
theorem toInt_wd (s : Bool) (r : Nat) (h : r < 9218868437227405312) : (Ieee.double.read (wd s r)).toInt .zero = some (sg s (val r / pw 1074)) := by
  rw [read_wd s r h]
  unfold Ieee.Datum.toInt Ieee.Datum.integral
  simp only [signed_sg, cut_zero, Nat.pow_zero, Nat.mul_one, Nat.shiftLeft_eq]
  congr 2
  unfold val pw
  generalize mant r = m
  generalize expo r = k
  generalize hN : 1074 = N
  have hN' : (1074 : Int) = (N : Int) := by omega
  by_cases hk : N ≤ k
  · have e1 : (-1074 + (k : Int)).toNat = k - N := by omega
    have e2 : (-(-1074 + (k : Int))).toNat = 0 := by omega
    rw [e1, e2, Nat.pow_zero, Nat.div_one]
    have : m * 2 ^ k = m * 2 ^ (k - N) * 2 ^ N := by rw [Nat.mul_assoc, ← Nat.pow_add, show k - N + N = k by omega]
    rw [this, Nat.mul_div_cancel _ (Nat.two_pow_pos _)]
  · have e1 : (-1074 + (k : Int)).toNat = 0 := by omega
    have e2 : (-(-1074 + (k : Int))).toNat = N - k := by omega
    rw [e1, e2, Nat.pow_zero, Nat.mul_one]
    have : 2 ^ N = 2 ^ (N - k) * 2 ^ k := by rw [← Nat.pow_add, show N - k + k = N by omega]
    rw [this, Nat.mul_div_mul_right _ _ (Nat.two_pow_pos _)]
/-- Greater rungs stand for greater numbers. -/
theorem val_lt (a b : Nat) (h : a < b) : val a < val b := by
  unfold val mant expo
  by_cases ha : a < 4503599627370496
  · rw [if_pos ha, if_pos ha]
    by_cases hb : b < 4503599627370496
    · rw [if_pos hb, if_pos hb]; simpa using h
    · rw [if_neg hb, if_neg hb]
      have : 1 ≤ 2 ^ (b / 4503599627370496 - 1) := Nat.one_le_two_pow
      have : 4503599627370496 * 1 ≤ (4503599627370496 + b % 4503599627370496) * 2 ^ (b / 4503599627370496 - 1) := Nat.mul_le_mul (by omega) this
      simp; omega
  · have hb : ¬ b < 4503599627370496 := by omega
    rw [if_neg ha, if_neg ha, if_neg hb, if_neg hb]
    by_cases hq : a / 4503599627370496 = b / 4503599627370496
    · rw [hq]
      exact Nat.mul_lt_mul_of_pos_right (by omega) (Nat.two_pow_pos _)
    · have hq' : a / 4503599627370496 < b / 4503599627370496 := by omega
      have e : b / 4503599627370496 - 1 = (a / 4503599627370496 - 1) + 1 + (b / 4503599627370496 - a / 4503599627370496 - 1) := by omega
      have h1 : 2 ^ ((a / 4503599627370496 - 1) + 1) ≤ 2 ^ (b / 4503599627370496 - 1) := Nat.pow_le_pow_right (by omega) (by omega)
      have h2 : (4503599627370496 + a % 4503599627370496) * 2 ^ (a / 4503599627370496 - 1) < 9007199254740992 * 2 ^ (a / 4503599627370496 - 1) := Nat.mul_lt_mul_of_pos_right (by omega) (Nat.two_pow_pos _)
      have h3 : 9007199254740992 * 2 ^ (a / 4503599627370496 - 1) = 4503599627370496 * 2 ^ ((a / 4503599627370496 - 1) + 1) := by rw [Nat.pow_succ]; omega
      have h4 : 4503599627370496 * 2 ^ ((a / 4503599627370496 - 1) + 1) ≤ (4503599627370496 + b % 4503599627370496) * 2 ^ (b / 4503599627370496 - 1) := Nat.mul_le_mul (by omega) h1
      omega
theorem val_le (a b : Nat) (h : a ≤ b) : val a ≤ val b := by
  rcases Nat.lt_or_ge a b with h' | h'
  · exact Nat.le_of_lt (val_lt a b h')
  · rw [show a = b by omega]; exact Nat.le_refl _
theorem val_lt_iff (a b : Nat) : val a < val b ↔ a < b :=
  ⟨fun h => by rcases Nat.lt_or_ge a b with h' | h'; exact h'; exact absurd (val_le b a h') (by omega), val_lt a b⟩
theorem near0 (s : Bool) (p : Int) : Ieee.double.nearest s 0 p = wd s 0 := by
  unfold Ieee.Format.nearest wd; rw [if_pos rfl]; unfold Ieee.Format.word; rw [d1]
theorem val_norm (E F : Nat) (h1 : 1 ≤ E) (hF : F < 4503599627370496) : mant (E * 4503599627370496 + F) = 4503599627370496 + F ∧ expo (E * 4503599627370496 + F) = E - 1 := by
  unfold mant expo
  rw [if_neg (by omega), if_neg (by omega)]
  have r1 : (E * 4503599627370496 + F) % 4503599627370496 = F := by omega
  have r2 : (E * 4503599627370496 + F) / 4503599627370496 = E := by omega
  rw [r1, r2]; exact ⟨rfl, rfl⟩
/-- Taking the leading bit off. -/
theorem sub_lead (E F : Nat) (h1 : 1 ≤ E) (h2 : E ≤ 2046) (hF : F < 4503599627370496) :
    ∃ r, Ieee.double.sub (E * 4503599627370496 + F) (E * 4503599627370496) = some r ∧ r < 9218868437227405312 ∧ val r = F * 2 ^ (E - 1) := by
  unfold Ieee.Format.sub
  obtain ⟨a1, a2⟩ := val_norm E F h1 hF
  obtain ⟨b1, b2⟩ := val_norm E 0 h1 (by omega)
  simp only [Nat.add_zero] at b1 b2
  rw [read_pos _ (by omega), read_pos _ (by omega), a1, a2, b1, b2]
  simp only [Ieee.Datum.opposite, Ieee.Datum.sum, Option.map, Bool.not_false, Bool.false_and, Int.min_self, Int.sub_self, Int.toNat_zero, signed_sg, Nat.pow_zero, Nat.mul_one]
  have t : sg false (4503599627370496 + F) + sg true 4503599627370496 = (F : Int) := by unfold sg; simp; omega
  rw [t]
  have t2 : (if (F : Int) = 0 then false else decide ((F : Int) < 0)) = false := by split <;> simp <;> omega
  rw [t2, Int.natAbs_natCast]
  unfold Ieee.Format.write
  by_cases hz : F = 0
  · subst hz
    refine ⟨0, by simp only; rw [near0]; rfl, by omega, ?_⟩
    unfold val mant expo; simp
  · have hl : F.log2 < 52 := (Nat.log2_lt hz).2 (by simpa using hF)
    obtain ⟨r, e, hr, hv⟩ := near false F (E - 1) hz (by omega) (by omega)
    exact ⟨r, by simp only; rw [e]; simp, hr, hv⟩
/-- One times a power of two. -/
theorem mul_one_pow (E : Nat) (h1 : 1 ≤ E) (h2 : E ≤ 2046) : Ieee.double.mul 4607182418800017408 (E * 4503599627370496) = some (E * 4503599627370496) := by
  unfold Ieee.Format.mul
  obtain ⟨b1, b2⟩ := val_norm E 0 h1 (by omega)
  simp only [Nat.add_zero] at b1 b2
  obtain ⟨a1, a2⟩ := val_norm 1023 0 (by omega) (by omega)
  have e0 : (4607182418800017408 : Nat) = 1023 * 4503599627370496 + 0 := by decide
  rw [e0, read_pos _ (by omega), read_pos _ (by omega), a1, a2, b1, b2]
  simp only [Ieee.Datum.product, Option.map, Nat.add_zero, Bool.xor_false]
  congr 1
  unfold Ieee.Format.write
  simp only
  unfold Ieee.Format.nearest
  have l : (4503599627370496 * 4503599627370496 : Nat).log2 = 104 := by decide
  have e52 : (Ieee.double.fractionBits : Int) = 52 := rfl
  rw [if_neg (by decide)]
  simp only [d2, d3, d4, l, e52]
  have e1 : max (-1074 + ((1023 - 1 : Nat) : Int) + (-1074 + ((E - 1 : Nat) : Int)) + ((104 : Nat) : Int) - 52) (-1074) = -1074 + ((E - 1 : Nat) : Int) := by omega
  rw [e1]
  have e2 : (-1074 + ((1023 - 1 : Nat) : Int) + (-1074 + ((E - 1 : Nat) : Int)) - (-1074 + ((E - 1 : Nat) : Int))).toNat = 0 := by omega
  have e3 : (-1074 + ((E - 1 : Nat) : Int) - (-1074 + ((1023 - 1 : Nat) : Int) + (-1074 + ((E - 1 : Nat) : Int)))).toNat = 52 := by omega
  have e4 : (-1074 + ((E - 1 : Nat) : Int) - -1074).toNat = E - 1 := by omega
  rw [e2, e3, e4]
  have e5 : Ieee.Toward.even.cut false ((4503599627370496 * 4503599627370496) <<< 0) 52 = 4503599627370496 := by decide
  rw [e5, Nat.min_eq_left (by omega)]
  unfold Ieee.Format.word
  simp; omega

end Go.Proofs.Ytokkndnicpgdkaa
