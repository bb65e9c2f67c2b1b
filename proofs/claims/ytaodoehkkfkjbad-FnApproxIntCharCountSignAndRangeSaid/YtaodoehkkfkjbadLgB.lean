/-
  Sums, products and quotients of words within bounds; plain arithmetic, no program.
-/
import Derived.Test.YtaodoehkkfkjbadRows
import Derived.WalkKit
import Derived.ProofKit
import Derived.OpenShut
import Derived.Test.YtaodoehkkfkjbadFltM
import Derived.Test.YtaodoehkkfkjbadLgA
import Ieee.Arith
import Derived.Laws.FloatArith
namespace Go.Proofs.Ytaodoehkkfkjbad
open Go.ChangeShapes Go.WideShapes Go.ChangeAt Go.RowKit

set_option linter.unusedVariables false

theorem sg_natAbs (t : Int) (b : Bool) : sg (if t = 0 then b else decide (t < 0)) t.natAbs = t := by
  by_cases h : t = 0
  · rw [if_pos h, h]; unfold sg; cases b <;> rfl
  · rw [if_neg h]
    unfold sg
    by_cases h2 : t < 0
    · rw [decide_eq_true h2]; simp only [if_true]; omega
    · rw [decide_eq_false h2]; simp only [Bool.false_eq_true, if_false]; omega
theorem sum_num (s t : Bool) (m n a b : Nat) : ∃ S T, (Ieee.Datum.number s m (-1074 + (a : Int))).sum (.number t n (-1074 + (b : Int))) = some (.number S T (-1074 + ((min a b : Nat) : Int))) ∧ sg S (T * pw (min a b)) = sg s (m * 2 ^ a) + sg t (n * 2 ^ b) := by
  unfold Ieee.Datum.sum
  simp only [signed_sg]
  have e : min (-1074 + (a : Int)) (-1074 + (b : Int)) = -1074 + ((min a b : Nat) : Int) := by omega
  have e1 : (-1074 + (a : Int) - (-1074 + ((min a b : Nat) : Int))).toNat = a - min a b := by omega
  have e2 : (-1074 + (b : Int) - (-1074 + ((min a b : Nat) : Int))).toNat = b - min a b := by omega
  rw [e, e1, e2]
  refine ⟨_, _, rfl, ?_⟩
  rw [pw_eq, sg_mul, sg_natAbs, Int.add_mul, ← sg_mul, ← sg_mul]
  have f1 : m * 2 ^ a = m * 2 ^ (a - min a b) * 2 ^ (min a b) := by rw [Nat.mul_assoc, ← Nat.pow_add, show a - min a b + min a b = a by omega]
  have f2 : n * 2 ^ b = n * 2 ^ (b - min a b) * 2 ^ (min a b) := by rw [Nat.mul_assoc, ← Nat.pow_add, show b - min a b + min a b = b by omega]
  rw [f1, f2]
theorem val_eq (r : Nat) : val r = mant r * 2 ^ expo r := rfl
theorem sum_write {x y : Ieee.Datum} {s t : Bool} {m n a b : Nat} (hx : x = .number s m (-1074 + (a : Int))) (hy : y = .number t n (-1074 + (b : Int))) (lo hi : Int) (fl : Fit lo.natAbs) (fh : Fit hi.natAbs)
    (h1 : lo * (pw 1014 : Nat) ≤ sg s (m * 2 ^ a) + sg t (n * 2 ^ b)) (h2 : sg s (m * 2 ^ a) + sg t (n * 2 ^ b) ≤ hi * (pw 1014 : Nat)) : ∃ z, (x.sum y).map Ieee.double.write = some z ∧ Iv z lo hi := by
  subst hx hy
  obtain ⟨S, T, e, hv⟩ := sum_num s t m n a b
  rw [e]
  refine ⟨_, rfl, ?_⟩
  show Iv (Ieee.double.nearest S T _) lo hi
  refine iv_write S T _ 0 (min a b) lo hi (by omega) fl fh ?_ ?_
  · rw [hv, pw_eq 0]; simpa using h1
  · rw [hv, pw_eq 0]; simpa using h2
theorem iv_add {x y : Nat} {a b c d : Int} (hx : Iv x a b) (hy : Iv y c d) (lo hi : Int) (fl : Fit lo.natAbs) (fh : Fit hi.natAbs) (h1 : lo ≤ a + c) (h2 : b + d ≤ hi) : ∃ z, Ieee.double.add x y = some z ∧ Iv z lo hi := by
  obtain ⟨s, r, rfl, hr, x1, x2⟩ := hx
  obtain ⟨t, q, rfl, hq, y1, y2⟩ := hy
  have hP := pw_pos 1014
  rw [val_eq] at x1 x2 y1 y2
  unfold Ieee.Format.add
  refine sum_write (read_wd s r hr) (read_wd t q hq) lo hi fl fh ?_ ?_
  · generalize sg s (mant r * 2 ^ expo r) = X at *
    generalize sg t (mant q * 2 ^ expo q) = Y at *
    have := Int.mul_le_mul_of_nonneg_right h1 (show (0 : Int) ≤ (pw 1014 : Nat) by omega)
    rw [Int.add_mul] at this
    omega
  · generalize sg s (mant r * 2 ^ expo r) = X at *
    generalize sg t (mant q * 2 ^ expo q) = Y at *
    have := Int.mul_le_mul_of_nonneg_right h2 (show (0 : Int) ≤ (pw 1014 : Nat) by omega)
    rw [Int.add_mul] at this
    omega
theorem sg_not (t : Bool) (v : Nat) : sg (!t) v = - sg t v := by cases t <;> simp [sg]
theorem iv_sub {x y : Nat} {a b c d : Int} (hx : Iv x a b) (hy : Iv y c d) (lo hi : Int) (fl : Fit lo.natAbs) (fh : Fit hi.natAbs) (h1 : lo ≤ a - d) (h2 : b - c ≤ hi) : ∃ z, Ieee.double.sub x y = some z ∧ Iv z lo hi := by
  obtain ⟨s, r, rfl, hr, x1, x2⟩ := hx
  obtain ⟨t, q, rfl, hq, y1, y2⟩ := hy
  have hP := pw_pos 1014
  rw [val_eq] at x1 x2 y1 y2
  unfold Ieee.Format.sub
  have e : (Ieee.double.read (wd t q)).opposite = .number (!t) (mant q) (-1074 + (expo q : Int)) := by rw [read_wd t q hq]; rfl
  refine sum_write (read_wd s r hr) e lo hi fl fh ?_ ?_
  · rw [sg_not]
    generalize sg s (mant r * 2 ^ expo r) = X at *
    generalize sg t (mant q * 2 ^ expo q) = Y at *
    have := Int.mul_le_mul_of_nonneg_right h1 (show (0 : Int) ≤ (pw 1014 : Nat) by omega)
    rw [Int.sub_mul] at this
    omega
  · rw [sg_not]
    generalize sg s (mant r * 2 ^ expo r) = X at *
    generalize sg t (mant q * 2 ^ expo q) = Y at *
    have := Int.mul_le_mul_of_nonneg_right h2 (show (0 : Int) ≤ (pw 1014 : Nat) by omega)
    rw [Int.sub_mul] at this
    omega
theorem sg_xor (s t : Bool) (m n : Nat) : sg (s ^^ t) (m * n) = sg s m * sg t n := by
  cases s <;> cases t <;> simp [sg, Int.neg_mul, Int.mul_neg]
/-- A product lies between the least and the greatest of the corners'. -/
theorem corner_le {X Y a b c d L : Int} (x1 : a ≤ X) (x2 : X ≤ b) (y1 : c ≤ Y) (y2 : Y ≤ d) (h1 : L ≤ a * c) (h2 : L ≤ a * d) (h3 : L ≤ b * c) (h4 : L ≤ b * d) : L ≤ X * Y := by
  rcases Int.lt_or_le Y 0 with hy | hy
  · have e1 : b * Y ≤ X * Y := Int.mul_le_mul_of_nonpos_right x2 (by omega)
    rcases Int.lt_or_le b 0 with hb | hb
    · have e2 : b * d ≤ b * Y := Int.mul_le_mul_of_nonpos_left (by omega) y2
      omega
    · have e2 : b * c ≤ b * Y := Int.mul_le_mul_of_nonneg_left y1 hb
      omega
  · have e1 : a * Y ≤ X * Y := Int.mul_le_mul_of_nonneg_right x1 hy
    rcases Int.lt_or_le a 0 with hb | hb
    · have e2 : a * d ≤ a * Y := Int.mul_le_mul_of_nonpos_left (by omega) y2
      omega
    · have e2 : a * c ≤ a * Y := Int.mul_le_mul_of_nonneg_left y1 hb
      omega
theorem corner_ge {X Y a b c d H : Int} (x1 : a ≤ X) (x2 : X ≤ b) (y1 : c ≤ Y) (y2 : Y ≤ d) (h1 : a * c ≤ H) (h2 : a * d ≤ H) (h3 : b * c ≤ H) (h4 : b * d ≤ H) : X * Y ≤ H := by
  have h := corner_le (X := X) (Y := -Y) (a := a) (b := b) (c := -d) (d := -c) (L := -H) x1 x2 (by omega) (by omega) (by rw [Int.mul_neg]; omega) (by rw [Int.mul_neg]; omega) (by rw [Int.mul_neg]; omega) (by rw [Int.mul_neg]; omega)
  rw [Int.mul_neg] at h; omega
theorem pw60 : (pw 1074 : Nat) = 1152921504606846976 * pw 1014 := by
  rw [show (1074 : Nat) = 60 + 1014 from rfl, pw_add, show pw 60 = 1152921504606846976 by decide]
theorem iv_mul {x y : Nat} {a b c d : Int} (hx : Iv x a b) (hy : Iv y c d) (lo hi : Int) (fl : Fit lo.natAbs) (fh : Fit hi.natAbs) (l1 : lo * 1152921504606846976 ≤ a * c) (l2 : lo * 1152921504606846976 ≤ a * d) (l3 : lo * 1152921504606846976 ≤ b * c) (l4 : lo * 1152921504606846976 ≤ b * d)
    (u1 : a * c ≤ hi * 1152921504606846976) (u2 : a * d ≤ hi * 1152921504606846976) (u3 : b * c ≤ hi * 1152921504606846976) (u4 : b * d ≤ hi * 1152921504606846976) : ∃ z, Ieee.double.mul x y = some z ∧ Iv z lo hi := by
  obtain ⟨s, r, rfl, hr, x1, x2⟩ := hx
  obtain ⟨t, q, rfl, hq, y1, y2⟩ := hy
  have hP := pw_pos 1014
  unfold Ieee.Format.mul
  rw [read_wd s r hr, read_wd t q hq]
  refine ⟨_, rfl, ?_⟩
  show Iv (Ieee.double.nearest (s ^^ t) (mant r * mant q) _) lo hi
  have ev : sg (s ^^ t) (mant r * mant q * pw (expo r + expo q)) = sg s (val r) * sg t (val q) := by
    rw [← sg_xor, val_eq, val_eq, pw_eq, Nat.pow_add]
    congr 1
    ac_rfl
  have e2 : ((pw 1074 : Nat) : Int) = 1152921504606846976 * ((pw 1014 : Nat) : Int) := by
    rw [pw60, Int.natCast_mul]; rfl
  have hPi : (0 : Int) ≤ ((pw 1014 : Nat) : Int) * ((pw 1014 : Nat) : Int) := Int.mul_nonneg (by omega) (by omega)
  refine iv_write _ _ _ 1074 (expo r + expo q) lo hi (by omega) fl fh ?_ ?_
  · rw [ev, e2]
    generalize ((pw 1014 : Nat) : Int) = P at *
    have k : ∀ u v : Int, lo * 1152921504606846976 ≤ u * v → lo * P * (1152921504606846976 * P) ≤ (u * P) * (v * P) := fun u v h => by
      have h := Int.mul_le_mul_of_nonneg_right h hPi
      have e1 : lo * 1152921504606846976 * (P * P) = lo * P * (1152921504606846976 * P) := by ac_rfl
      have e2 : u * v * (P * P) = (u * P) * (v * P) := by ac_rfl
      omega
    exact corner_le x1 x2 y1 y2 (k _ _ l1) (k _ _ l2) (k _ _ l3) (k _ _ l4)
  · rw [ev, e2]
    generalize ((pw 1014 : Nat) : Int) = P at *
    have k : ∀ u v : Int, u * v ≤ hi * 1152921504606846976 → (u * P) * (v * P) ≤ hi * P * (1152921504606846976 * P) := fun u v h => by
      have h := Int.mul_le_mul_of_nonneg_right h hPi
      have e1 : hi * 1152921504606846976 * (P * P) = hi * P * (1152921504606846976 * P) := by ac_rfl
      have e2 : u * v * (P * P) = (u * P) * (v * P) := by ac_rfl
      omega
    exact corner_ge x1 x2 y1 y2 (k _ _ u1) (k _ _ u2) (k _ _ u3) (k _ _ u4)
/-- The quotient's digits are no more than a hair above the quotient. -/
theorem quo_le (m n more : Nat) (hn : 0 < n) (hb : 9007199254740992 * n ≤ m * 2 ^ more) : (2 * (m * 2 ^ more / n) + (m * 2 ^ more % n != 0).toNat) * n * 18014398509481984 ≤ 2 * (m * 2 ^ more) * 18014398509481985 := by
  obtain ⟨D, hD⟩ : ∃ D, D = m * 2 ^ more := ⟨_, rfl⟩
  rw [← hD] at hb ⊢
  have h1 := Nat.div_add_mod D n
  have h2 := Nat.mod_lt D hn
  have h3 : ((2 * (D / n) + (D % n != 0).toNat) * n) ≤ 2 * D + n := by
    have h4 := Bool.toNat_le (D % n != 0)
    have h5 : (2 * (D / n) + (D % n != 0).toNat) * n ≤ (2 * (D / n) + 1) * n := Nat.mul_le_mul_right _ (by omega)
    have h6 : (2 * (D / n) + 1) * n = 2 * (n * (D / n)) + n := by rw [Nat.add_mul, Nat.one_mul, Nat.mul_assoc, Nat.mul_comm (D / n) n]
    omega
  omega
theorem to_nat (v A h c : Nat) (u : (v : Int) * (A : Int) ≤ (h : Int) * (c : Int)) : v * A ≤ h * c := by exact_mod_cast u
theorem alg1 (Q m c X Y : Nat) : Q * m * c * (X * Y) = Q * X * (m * Y) * c := by ac_rfl
theorem alg2 (t m M d E T Y : Nat) : t * (m * M) * d * (E * T * Y) = m * E * T * (Y * M * t) * d := by ac_rfl
theorem alg3 (v P a Y d c e : Nat) (h : e * c = a * d) : (v * P) * (a * P) * Y * d = v * e * (P * P * Y * c) := by
  have h1 : (v * P) * (a * P) * Y * d = v * (a * d) * (P * P * Y) := by ac_rfl
  have h2 : v * e * (P * P * Y * c) = v * (e * c) * (P * P * Y) := by ac_rfl
  rw [h1, h2, h]
theorem alg4 (h c P Y d : Nat) : h * c * (P * P * Y * d) = h * P * Y * d * (c * P) := by ac_rfl
theorem alg5 (h v d : Nat) : h * d * v = h * (v * d) := by ac_rfl
theorem alg6 (h v d : Nat) : h * v * d = h * (v * d) := by ac_rfl
theorem iv_div {x y : Nat} {a b c d : Int} (hx : Iv x a b) (hy : Iv y c d) (hc : 0 < c) (lo hi : Int) (fl : Fit lo.natAbs) (fh : Fit hi.natAbs) (hl : lo ≤ 0) (hh : 0 ≤ hi)
    (u : b * 1152921504606847040 ≤ hi * c) (l : lo * c ≤ a * 1152921504606847040) : ∃ z, Ieee.double.div x y = some z ∧ Iv z lo hi := by
  obtain ⟨s, r, rfl, hr, x1, x2⟩ := hx
  obtain ⟨t, q, rfl, hq, y1, y2⟩ := hy
  have hP := pw_pos 1014
  have ht : t = false := by
    cases t
    · rfl
    · exfalso
      have h1 : 0 < c * ((pw 1014 : Nat) : Int) := Int.mul_pos hc (by omega)
      rw [sgt] at y1; omega
  subst ht
  rw [sgf] at y1 y2
  have hn : mant q ≠ 0 := by
    intro h
    have h1 : 0 < c * ((pw 1014 : Nat) : Int) := Int.mul_pos hc (by omega)
    rw [val_eq, h, Nat.zero_mul] at y1
    omega
  unfold Ieee.Format.div
  have e52 : Ieee.double.fractionBits + 2 = 54 := rfl
  rw [read_wd s r hr, read_wd false q hq, e52]
  unfold Ieee.Datum.quotient
  simp only [if_neg hn]
  refine ⟨_, rfl, ?_⟩
  rw [Nat.shiftLeft_eq]
  obtain ⟨more, hm⟩ : ∃ more, more = 54 + (mant q).log2 - (mant r).log2 := ⟨_, rfl⟩
  rw [← hm, Bool.xor_false]
  show Iv (Ieee.double.nearest s (2 * (mant r * 2 ^ more / mant q) + (mant r * 2 ^ more % mant q != 0).toNat) _) lo hi
  obtain ⟨Q, hQ⟩ : ∃ Q, Q = 2 * (mant r * 2 ^ more / mant q) + (mant r * 2 ^ more % mant q != 0).toNat := ⟨_, rfl⟩
  have hQn : Q * mant q * 18014398509481984 ≤ 2 * (mant r * 2 ^ more) * 18014398509481985 := by
    by_cases h0 : mant r = 0
    · rw [hQ, h0]; simp
    · rw [hQ]
      refine quo_le _ _ _ (by omega) ?_
      have g1 : mant q < 2 ^ ((mant q).log2 + 1) := Nat.lt_log2_self
      have g2 : 2 ^ (mant r).log2 ≤ mant r := Nat.log2_self_le h0
      have g3 : 2 ^ (54 + (mant q).log2) ≤ 2 ^ ((mant r).log2 + more) := Nat.pow_le_pow_right (by omega) (by omega)
      rw [Nat.pow_add 2 (mant r).log2, Nat.pow_add 2 54] at g3
      rw [Nat.pow_succ] at g1
      have g4 : 2 ^ (mant r).log2 * 2 ^ more ≤ mant r * 2 ^ more := Nat.mul_le_mul_right _ g2
      have g5 : 2 ^ 54 = 18014398509481984 := by decide
      rw [g5] at g3
      omega
  rw [← hQ]
  clear hQ
  have k1 : Q * pw (expo r + 1074) * (val q) * 18014398509481984 ≤ val r * pw 1074 * pw (expo q + more + 1) * 18014398509481985 := by
    have h := Nat.mul_le_mul_right (pw (expo r + 1074) * pw (expo q)) hQn
    have e1 : Q * mant q * 18014398509481984 * (pw (expo r + 1074) * pw (expo q)) = Q * pw (expo r + 1074) * (val q) * 18014398509481984 := by rw [val_eq, ← pw_eq (expo q)]; exact alg1 _ _ _ _ _
    have e2 : 2 * (mant r * 2 ^ more) * 18014398509481985 * (pw (expo r + 1074) * pw (expo q)) = val r * pw 1074 * pw (expo q + more + 1) * 18014398509481985 := by
      rw [val_eq, pw_add (expo r) 1074, pw_add (expo q + more) 1, pw_add (expo q) more, ← pw_eq (expo r), ← pw_eq more, show pw 1 = 2 by decide]; exact alg2 _ _ _ _ _ _ _
    rw [e1, e2] at h
    exact h
  rw [pw60] at k1
  obtain ⟨X, hX⟩ : ∃ X, X = pw (expo r + 1074) := ⟨_, rfl⟩
  obtain ⟨Y, hY⟩ : ∃ Y, Y = pw (expo q + more + 1) := ⟨_, rfl⟩
  have hYp : 0 < Y := hY ▸ pw_pos _
  have hPd := hP
  obtain ⟨P, hPP⟩ : ∃ P, P = pw 1014 := ⟨_, rfl⟩
  rw [← hX, ← hY, ← hPP] at k1
  rw [← hPP] at x1 x2 y1 y2 hP
  obtain ⟨c', rfl⟩ := Int.eq_ofNat_of_zero_le (show 0 ≤ c by omega)
  have yv : c' * P ≤ val q := by exact_mod_cast y1
  -- a bound h on the quotient from a bound v on the dividend
  have main : ∀ v h : Nat, val r ≤ v * P → v * 1152921504606847040 ≤ h * c' → Q * X ≤ h * P * Y := fun v h hv hvh => by
    have hvq : 0 < val q := Nat.lt_of_lt_of_le (Nat.mul_pos (by omega) hP) yv
    refine Nat.le_of_mul_le_mul_right (c := val q * 18014398509481984) ?_ (by omega)
    have f1 : val r * (1152921504606846976 * P) * Y * 18014398509481985 ≤ (v * P) * (1152921504606846976 * P) * Y * 18014398509481985 :=
      Nat.mul_le_mul_right _ (Nat.mul_le_mul_right _ (Nat.mul_le_mul_right _ hv))
    have f2 : (v * P) * (1152921504606846976 * P) * Y * 18014398509481985 = v * 1152921504606847040 * (P * P * Y * 18014398509481984) := alg3 _ _ _ _ _ _ _ (by decide)
    have f3 : v * 1152921504606847040 * (P * P * Y * 18014398509481984) ≤ h * c' * (P * P * Y * 18014398509481984) := Nat.mul_le_mul_right _ hvh
    have f4 : h * c' * (P * P * Y * 18014398509481984) = h * P * Y * 18014398509481984 * (c' * P) := alg4 _ _ _ _ _
    have f5 : h * P * Y * 18014398509481984 * (c' * P) ≤ h * P * Y * 18014398509481984 * val q := Nat.mul_le_mul_left _ yv
    have f6 : h * P * Y * 18014398509481984 * val q = h * P * Y * (val q * 18014398509481984) := alg5 _ _ _
    have f7 : Q * X * val q * 18014398509481984 = Q * X * (val q * 18014398509481984) := alg6 _ _ _
    omega
  refine iv_write s Q _ (expo q + more + 1) (expo r + 1074) lo hi (by omega) fl fh ?_ ?_ <;> rw [← hX, ← hY, ← hPP]
  · cases s
    · rw [sgf]
      have h0 : 0 < (P : Int) * (Y : Int) := Int.mul_pos (by omega) (by omega)
      have h1 : lo * (P : Int) * (Y : Int) ≤ 0 := by rw [Int.mul_assoc]; exact Int.mul_nonpos_of_nonpos_of_nonneg hl (by omega)
      omega
    · rw [sgt] at x1 x2 ⊢
      have ha : a ≤ 0 := by
        rcases Int.lt_or_le 0 a with h | h
        · have : 0 < a * (P : Int) := Int.mul_pos h (by omega)
          omega
        · exact h
      obtain ⟨v, hv⟩ := Int.eq_ofNat_of_zero_le (show 0 ≤ -a by omega)
      obtain ⟨h, hh'⟩ := Int.eq_ofNat_of_zero_le (show 0 ≤ -lo by omega)
      have ea : a = -(v : Int) := by omega
      have el : lo = -(h : Int) := by omega
      subst ea el
      have hm1 := main v h (by rw [Int.neg_mul] at x1; have := Int.neg_le_neg_iff.1 x1; exact_mod_cast this) (by
        rw [Int.neg_mul, Int.neg_mul] at l; exact to_nat _ _ _ _ (Int.neg_le_neg_iff.1 l))
      rw [Int.neg_mul, Int.neg_mul]
      refine Int.neg_le_neg ?_
      exact_mod_cast hm1
  · cases s
    · rw [sgf] at x1 x2 ⊢
      have hb : 0 ≤ b := by
        rcases Int.lt_or_le b 0 with h | h
        · have : b * (P : Int) < 0 := Int.mul_neg_of_neg_of_pos h (by omega)
          omega
        · exact h
      obtain ⟨v, rfl⟩ := Int.eq_ofNat_of_zero_le hb
      obtain ⟨h, rfl⟩ := Int.eq_ofNat_of_zero_le hh
      have hm1 := main v h (by exact_mod_cast x2) (to_nat _ _ _ _ u)
      exact_mod_cast hm1
    · rw [sgt]
      have h0 : 0 < (P : Int) * (Y : Int) := Int.mul_pos (by omega) (by omega)
      have h1 : 0 ≤ hi * (P : Int) * (Y : Int) := by rw [Int.mul_assoc]; exact Int.mul_nonneg hh (by omega)
      omega
theorem val_at' (E F : Nat) (h1 : 1 ≤ E) (hF : F < 4503599627370496) : val (E * 4503599627370496 + F) = (4503599627370496 + F) * 2 ^ (E - 1) := by
  have := val_kept (E - 1) (4503599627370496 + F) (by omega) (.inr (by omega))
  rw [show (E - 1) * 4503599627370496 + (4503599627370496 + F) = E * 4503599627370496 + F by omega] at this
  exact this
/-- A word above 2^-60 (by its exponent field E = 963 + e), between bounds. -/
theorem iv_word (s : Bool) (e F : Nat) (lo hi : Int) (he : e ≤ 1083) (hF : F < 4503599627370496) (h1 : lo * 4503599627370496 ≤ sg s ((4503599627370496 + F) * 2 ^ e)) (h2 : sg s ((4503599627370496 + F) * 2 ^ e) ≤ hi * 4503599627370496) : Iv (wd s ((963 + e) * 4503599627370496 + F)) lo hi := by
  obtain ⟨R, hR⟩ : ∃ R, R = (963 + e) * 4503599627370496 + F := ⟨_, rfl⟩
  rw [← hR]
  unfold Iv
  refine ⟨s, R, rfl, by omega, ?_, ?_⟩ <;> rw [hR]
  all_goals
    rw [val_at' _ _ (by omega) hF, show 963 + e - 1 = e + 962 by omega, ← pw_eq (e + 962), pw_add, pw_eq e, ← Nat.mul_assoc, sg_mul]
    have e1 : ((pw 1014 : Nat) : Int) = 4503599627370496 * ((pw 962 : Nat) : Int) := by
      rw [show (1014 : Nat) = 52 + 962 from rfl, pw_add, Int.natCast_mul, show pw 52 = 4503599627370496 by decide]; rfl
    have hp : (0 : Int) ≤ ((pw 962 : Nat) : Int) := Int.natCast_nonneg _
    rw [e1]
    generalize ((pw 962 : Nat) : Int) = Z at *
  · have := Int.mul_le_mul_of_nonneg_right h1 hp
    rw [Int.mul_assoc] at this
    exact this
  · have := Int.mul_le_mul_of_nonneg_right h2 hp
    rw [Int.mul_assoc] at this
    exact this
theorem iv_zero : Iv 0 0 0 := ⟨false, 0, rfl, by omega, by simp [sg], by unfold val mant; simp [sg]⟩
theorem Iv.wide {x : Nat} {a b c d : Int} (h : Iv x a b) (h1 : c ≤ a) (h2 : b ≤ d) : Iv x c d := by
  obtain ⟨s, r, e, hr, x1, x2⟩ := h
  have hP := pw_pos 1014
  have k1 := Int.mul_le_mul_of_nonneg_right h1 (show (0 : Int) ≤ (pw 1014 : Nat) by omega)
  have k2 := Int.mul_le_mul_of_nonneg_right h2 (show (0 : Int) ≤ (pw 1014 : Nat) by omega)
  exact ⟨s, r, e, hr, by omega, by omega⟩

end Go.Proofs.Ytaodoehkkfkjbad
