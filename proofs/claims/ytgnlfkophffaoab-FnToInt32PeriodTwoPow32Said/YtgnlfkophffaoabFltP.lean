/-
  Lemmas shared by several laws of this seat; no statement of their own.
-/
import Derived.Test.YtgnlfkophffaoabRows
import Derived.WalkKit
import Derived.ProofKit
import Derived.OpenShut
import Derived.Test.YtgnlfkophffaoabFltM
import Derived.Test.YtgnlfkophffaoabFltW
import Derived.Test.YtgnlfkophffaoabFltX
import Derived.Test.YtgnlfkophffaoabFltY
import Derived.Test.YtgnlfkophffaoabFltZ
import Ieee.Arith
import Derived.Laws.FloatArith
namespace Go.Proofs.Ytgnlfkophffaoab
open Go.ChangeShapes Go.WideShapes Go.ChangeAt Go.RowKit

set_option linter.unusedVariables false

theorem cut_exact (s : Bool) (a D : Nat) (ha : a ≠ 0) : Ieee.Toward.even.cut s (a * 2 ^ D) D = a := by
  unfold Ieee.Toward.cut
  have hl : (a * 2 ^ D).log2 = a.log2 + D := by
    have h1 : a * 2 ^ D ≠ 0 := Nat.mul_ne_zero ha (Nat.ne_of_gt (Nat.two_pow_pos _))
    rw [Nat.log2_eq_iff h1]
    constructor
    · rw [Nat.pow_add]; exact Nat.mul_le_mul_right _ (Nat.log2_self_le ha)
    · rw [show a.log2 + D + 1 = a.log2 + 1 + D by omega, Nat.pow_add]; exact Nat.mul_lt_mul_of_pos_right Nat.lt_log2_self (Nat.two_pow_pos _)
  rw [hl, Nat.min_eq_left (by omega), Nat.shiftLeft_eq, Nat.one_mul]
  simp only [Nat.mul_div_cancel _ (Nat.two_pow_pos D), Nat.mul_mod_left]
  have hp := Nat.two_pow_pos D
  have : ¬ (2 ^ D = 0) := by omega
  simp
theorem log2_mul (a D : Nat) (ha : a ≠ 0) : (a * 2 ^ D).log2 = a.log2 + D := by
  have h1 : a * 2 ^ D ≠ 0 := Nat.mul_ne_zero ha (Nat.ne_of_gt (Nat.two_pow_pos _))
  rw [Nat.log2_eq_iff h1]
  constructor
  · rw [Nat.pow_add]; exact Nat.mul_le_mul_right _ (Nat.log2_self_le ha)
  · rw [show a.log2 + D + 1 = a.log2 + 1 + D by omega, Nat.pow_add]; exact Nat.mul_lt_mul_of_pos_right Nat.lt_log2_self (Nat.two_pow_pos _)
/-- Trailing zeros make no difference. -/
theorem near_shift (s : Bool) (m j k : Nat) (h0 : m ≠ 0) (hm : m < 9007199254740992) : Ieee.double.nearest s (m * 2 ^ j) (-1074 + (k : Int)) = Ieee.double.nearest s m (-1074 + ((k + j : Nat) : Int)) := by
  have hl : m.log2 < 53 := (Nat.log2_lt h0).2 hm
  have h1 : m * 2 ^ j ≠ 0 := Nat.mul_ne_zero h0 (Nat.ne_of_gt (Nat.two_pow_pos _))
  unfold Ieee.Format.nearest
  rw [if_neg h0, if_neg h1]
  have e52 : (Ieee.double.fractionBits : Int) = 52 := rfl
  simp only [d2, d3, d4, e52, log2_mul m j h0]
  generalize m.log2 = lg at *
  have e1 : max (-1074 + (k : Int) + ((lg + j : Nat) : Int) - 52) (-1074) = -1074 + ((k + j + lg - 52 : Nat) : Int) := by omega
  have e2 : max (-1074 + ((k + j : Nat) : Int) + (lg : Int) - 52) (-1074) = -1074 + ((k + j + lg - 52 : Nat) : Int) := by omega
  rw [e1, e2]
  generalize hL : k + j + lg - 52 = L at *
  have hLj : L ≤ k + j := by omega
  have f1 : (-1074 + ((k + j : Nat) : Int) - (-1074 + (L : Int))).toNat = k + j - L := by omega
  have f2 : (-1074 + (L : Int) - (-1074 + ((k + j : Nat) : Int))).toNat = 0 := by omega
  have f3 : (-1074 + (k : Int) - (-1074 + (L : Int))).toNat = k - L := by omega
  have f4 : (-1074 + (L : Int) - (-1074 + (k : Int))).toNat = L - k := by omega
  rw [f1, f2, f3, f4, cut_even, Nat.shiftLeft_eq, Nat.shiftLeft_eq]
  by_cases hk : L ≤ k
  · rw [show L - k = 0 by omega, cut_even, Nat.mul_assoc, ← Nat.pow_add, show j + (k - L) = k + j - L by omega]
  · rw [show k - L = 0 by omega, Nat.pow_zero, Nat.mul_one, show j = (k + j - L) + (L - k) by omega, Nat.pow_add, ← Nat.mul_assoc, cut_exact _ _ _ (Nat.mul_ne_zero h0 (Nat.ne_of_gt (Nat.two_pow_pos _))), show k + ((k + j - L) + (L - k)) - L = k + j - L by omega]
/-- A whole number that is small enough, written from any place below it. -/
theorem near_whole (b : Bool) (N : Int) (k : Nat) (hk : k ≤ 1074) (hN : N.natAbs < 9007199254740992) (hb : N ≠ 0 → b = decide (N < 0)) :
    ∃ s r, Ieee.double.nearest b (N.natAbs * 2 ^ (1074 - k)) (-1074 + (k : Int)) = wd s r ∧ r < 9218868437227405312 ∧ whole s r = N := by
  by_cases hz : N = 0
  · subst hz
    refine ⟨b, 0, by simp only [Int.natAbs_zero, Nat.zero_mul]; exact near0 b _, by omega, ?_⟩
    unfold whole sg val mant; cases b <;> simp
  · have hz' : N.natAbs ≠ 0 := by omega
    have hl : N.natAbs.log2 < 53 := (Nat.log2_lt hz').2 hN
    obtain ⟨r, g1, g2, g3⟩ := nearP b N.natAbs 1074 hz' hN (by omega)
    refine ⟨b, r, ?_, g2, ?_⟩
    · rw [near_shift b _ _ _ hz' hN, show k + (1074 - k) = 1074 by omega, g1]; rfl
    · unfold whole
      rw [g3, Nat.mul_div_cancel _ (pw_pos _), hb hz]
      unfold sg; split <;> simp_all <;> omega
theorem sg_eq_mul (x y : Int) (c : Nat) (hc : 0 < c) (h : x * (c : Int) = y * (c : Int)) : x = y := Int.eq_of_mul_eq_mul_right (by omega) h
/-- Adding 2^32, or its opposite, to a whole number of at most 52 bits. -/
theorem add_whole (s t : Bool) (r : Nat) (T : Int) (hr : r < 9218868437227405312) (he : expo r ≤ 1074) (hT : sg s (val r) = T * (pw 1074 : Nat)) (h1 : -4503599627370496 ≤ T) (h2 : T ≤ 4503599627370496) :
    ∃ s' r', ((Ieee.double.read (wd s r)).sum (.number t 4503599627370496 (-1074 + ((1054 : Nat) : Int)))).map Ieee.double.write = some (wd s' r') ∧ r' < 9218868437227405312 ∧ whole s' r' = T + sg t 4294967296 := by
  rw [read_wd s r hr]
  simp only [Ieee.Datum.sum, Option.map, signed_sg, Ieee.Format.write]
  generalize hk : expo r = k at *
  have e : min (-1074 + (k : Int)) (-1074 + ((1054 : Nat) : Int)) = -1074 + ((min k 1054 : Nat) : Int) := by omega
  have e1 : (-1074 + (k : Int) - (-1074 + ((min k 1054 : Nat) : Int))).toNat = k - min k 1054 := by omega
  have e2 : (-1074 + ((1054 : Nat) : Int) - (-1074 + ((min k 1054 : Nat) : Int))).toNat = 1054 - min k 1054 := by omega
  rw [e, e1, e2]
  generalize hB : min k 1054 = B at *
  have hBk : B ≤ k := by omega
  have hB4 : B ≤ 1054 := by omega
  obtain ⟨N, hN⟩ : ∃ N, N = T + sg t 4294967296 := ⟨_, rfl⟩
  rw [← hN]
  have hv : val r = mant r * 2 ^ (k - B) * pw B := by
    unfold val pw; rw [hk, Nat.mul_assoc, ← Nat.pow_add, show k - B + B = k by omega]
  have hy : 4503599627370496 * 2 ^ (1054 - B) * pw B = 4294967296 * pw 1074 := by
    have a1 : 2 ^ (1054 - B) * pw B = pw 1054 := by unfold pw; rw [← Nat.pow_add, show 1054 - B + B = 1054 by omega]
    rw [Nat.mul_assoc, a1]
    have a2 : pw 1074 = pw 1054 * pw 20 := by rw [← pw_add]
    rw [a2, show pw 20 = 1048576 from rfl]; omega
  have hp : pw 1074 = 2 ^ (1074 - B) * pw B := by unfold pw; rw [← Nat.pow_add, show 1074 - B + B = 1074 by omega]
  have tot : sg s (mant r * 2 ^ (k - B)) + sg t (4503599627370496 * 2 ^ (1054 - B)) = N * ((2 ^ (1074 - B) : Nat) : Int) := by
    apply sg_eq_mul _ _ (pw B) (pw_pos B)
    rw [Int.add_mul, ← sg_mul, ← sg_mul, ← hv, hy, hT, sg_mul, ← Int.add_mul, ← hN, hp, Int.natCast_mul, Int.mul_assoc]
  rw [tot]
  have nz := Nat.two_pow_pos (1074 - B)
  have eN : N = 0 ↔ N * ((2 ^ (1074 - B) : Nat) : Int) = 0 := by
    rw [Int.mul_eq_zero]; constructor
    · exact fun h => .inl h
    · rintro (h | h); exact h; omega
  have sN : N < 0 ↔ N * ((2 ^ (1074 - B) : Nat) : Int) < 0 := by
    constructor
    · intro h; exact Int.mul_neg_of_neg_of_pos h (by omega)
    · intro h
      by_cases h'' : N < 0
      · exact h''
      have h' : 0 ≤ N := by omega
      exact absurd (Int.mul_nonneg h' (by omega : (0 : Int) ≤ ((2 ^ (1074 - B) : Nat) : Int))) (by omega)
  have aN : (N * ((2 ^ (1074 - B) : Nat) : Int)).natAbs = N.natAbs * 2 ^ (1074 - B) := by rw [Int.natAbs_mul, Int.natAbs_natCast]
  rw [aN]
  have hNb : N.natAbs < 9007199254740992 := by
    rw [hN]; unfold sg; cases t <;> simp <;> omega
  obtain ⟨s', r', g1, g2, g3⟩ := near_whole (if N * ((2 ^ (1074 - B) : Nat) : Int) = 0 then s && t else decide (N * ((2 ^ (1074 - B) : Nat) : Int) < 0)) N B (by omega) hNb (fun h => by rw [if_neg (fun h' => h (eN.2 h'))]; simp only [sN])
  exact ⟨s', r', by rw [g1], g2, g3⟩

end Go.Proofs.Ytgnlfkophffaoab
