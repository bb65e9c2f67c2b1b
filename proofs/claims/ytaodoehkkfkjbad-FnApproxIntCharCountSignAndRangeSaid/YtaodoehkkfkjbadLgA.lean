/-
  Rounding keeps an order with the words that there are; sums, products, quotients of words within bounds; plain arithmetic, no program.
-/
import Derived.Test.YtaodoehkkfkjbadRows
import Derived.WalkKit
import Derived.ProofKit
import Derived.OpenShut
import Derived.Test.YtaodoehkkfkjbadFltM
import Ieee.Arith
import Derived.Laws.FloatArith
namespace Go.Proofs.Ytaodoehkkfkjbad
open Go.ChangeShapes Go.WideShapes Go.ChangeAt Go.RowKit

set_option linter.unusedVariables false

theorem cut_eq (s : Bool) (n d : Nat) : Ieee.Toward.even.cut s n d = n / 2 ^ min d (n.log2 + 2) + (decide (2 ^ min d (n.log2 + 2) < 2 * (n % 2 ^ min d (n.log2 + 2))) || ((2 ^ min d (n.log2 + 2) == 2 * (n % 2 ^ min d (n.log2 + 2))) && (n / 2 ^ min d (n.log2 + 2) % 2 == 1))).toNat := by
  unfold Ieee.Toward.cut
  simp only [Nat.shiftLeft_eq, Nat.one_mul]
theorem cut_small (s : Bool) (n d : Nat) (h : n.log2 + 2 < d) : Ieee.Toward.even.cut s n d = 0 := by
  rw [cut_eq, Nat.min_eq_right (by omega)]
  have h1 : n < 2 ^ (n.log2 + 1) := Nat.lt_log2_self
  have h2 : 2 ^ (n.log2 + 2) = 2 * 2 ^ (n.log2 + 1) := by rw [Nat.pow_succ]; omega
  generalize 2 ^ (n.log2 + 2) = g at *
  generalize 2 ^ (n.log2 + 1) = g1 at *
  have h3 : n / g = 0 := Nat.div_eq_of_lt (by omega)
  have h4 : n % g = n := Nat.mod_eq_of_lt (by omega)
  rw [h3, h4]
  have h5 : decide (g < 2 * n) = false := by simp; omega
  rw [h5]
  simp
theorem cut_le (s : Bool) (n d c : Nat) (h : n ≤ c * 2 ^ d) : Ieee.Toward.even.cut s n d ≤ c := by
  by_cases hd : n.log2 + 2 < d
  · rw [cut_small s n d hd]; omega
  · rw [cut_eq, Nat.min_eq_left (by omega)]
    have hg : 0 < 2 ^ d := Nat.two_pow_pos d
    generalize 2 ^ d = g at *
    have h1 := Nat.div_add_mod n g
    have h2 := Nat.mod_lt n hg
    by_cases h3 : n % g = 0
    · have h4 : n / g ≤ c := by
        have := Nat.div_le_div_right (c := g) h
        rwa [Nat.mul_div_cancel _ hg] at this
      rw [h3]
      have h5 : decide (g < 2 * 0) = false := by simp
      have h6 : (g == 2 * 0) = false := by simp; omega
      rw [h5, h6]; simpa using h4
    · have h4 : n / g < c := by
        rw [Nat.div_lt_iff_lt_mul hg]
        rcases Nat.lt_or_ge n (c * g) with h5 | h5
        · exact h5
        · exfalso; have e : n = c * g := by omega
          rw [e, Nat.mul_mod_left] at h3; exact h3 rfl
      have h5 := Bool.toNat_le (decide (g < 2 * (n % g)) || ((g == 2 * (n % g)) && (n / g % 2 == 1)))
      omega
theorem cut_ge (s : Bool) (n d c : Nat) (h : c * 2 ^ d ≤ n) : c ≤ Ieee.Toward.even.cut s n d := by
  by_cases hd : n.log2 + 2 < d
  · rw [cut_small s n d hd]
    have h1 : n < 2 ^ (n.log2 + 1) := Nat.lt_log2_self
    have h2 : 2 ^ (n.log2 + 1) ≤ 2 ^ d := Nat.pow_le_pow_right (by omega) (by omega)
    rcases Nat.eq_zero_or_pos c with h3 | h3
    · omega
    · have h4 : 2 ^ d ≤ c * 2 ^ d := Nat.le_mul_of_pos_left _ h3
      omega
  · rw [cut_eq, Nat.min_eq_left (by omega)]
    have hg : 0 < 2 ^ d := Nat.two_pow_pos d
    have h1 : c ≤ n / 2 ^ d := (Nat.le_div_iff_mul_le hg).2 h
    omega
/-- The rung that is written. -/
def rnd (m : Nat) (p : Int) : Nat := if m = 0 then 0 else min ((max (p + m.log2 - 52) (-1074) + 1074).toNat * 4503599627370496 + Ieee.Toward.even.cut false (m <<< (p - max (p + m.log2 - 52) (-1074)).toNat) (max (p + m.log2 - 52) (-1074) - p).toNat) 9218868437227405312
theorem cut_sign (s : Bool) (n d : Nat) : Ieee.Toward.even.cut s n d = Ieee.Toward.even.cut false n d := by rw [cut_eq, cut_eq]
theorem nearest_rnd (s : Bool) (m : Nat) (p : Int) : Ieee.double.nearest s m p = wd s (rnd m p) := by
  unfold Ieee.Format.nearest rnd
  have e52 : (Ieee.double.fractionBits : Int) = 52 := rfl
  by_cases h : m = 0
  · rw [if_pos h, if_pos h]; unfold Ieee.Format.word wd; rw [d1]
  · rw [if_neg h, if_neg h]
    simp only [d2, d3, d4, e52]
    unfold Ieee.Format.word wd
    rw [d1, cut_sign s]
    have e : ∀ x : Int, x - -1074 = x + 1074 := fun x => by omega
    rw [e]
theorem val_kept (L K : Nat) (h1 : K ≤ 9007199254740992) (h2 : L = 0 ∨ 4503599627370496 ≤ K) : val (L * 4503599627370496 + K) = K * 2 ^ L := by
  unfold val mant expo
  by_cases hc : L * 4503599627370496 + K < 4503599627370496
  · have h0 : L = 0 := by omega
    subst h0
    rw [if_pos hc, if_pos hc]; simp
  · rw [if_neg hc, if_neg hc]
    by_cases h3 : K = 9007199254740992
    · subst h3
      have r1 : (L * 4503599627370496 + 9007199254740992) % 4503599627370496 = 0 := by omega
      have r2 : (L * 4503599627370496 + 9007199254740992) / 4503599627370496 - 1 = L + 1 := by omega
      rw [r1, r2, Nat.pow_succ]; omega
    · have r1 : (L * 4503599627370496 + K) % 4503599627370496 = K - 4503599627370496 := by omega
      have r2 : (L * 4503599627370496 + K) / 4503599627370496 - 1 = L := by omega
      rw [r1, r2, show 4503599627370496 + (K - 4503599627370496) = K by omega]
theorem mant_lt (r : Nat) : mant r < 9007199254740992 := by unfold mant; split <;> omega
/-- The pieces of what is written: the place L, the kept digits K; and how they stand to the number. -/
theorem rnd_parts (m : Nat) (p : Int) (D k : Nat) (hp : p = -1074 - (D : Int) + (k : Int)) (h0 : m ≠ 0) :
    ∃ L K a b : Nat, rnd m p = min (L * 4503599627370496 + K) 9218868437227405312 ∧ K = Ieee.Toward.even.cut false (m * 2 ^ a) b ∧ a + (D + L) = b + k ∧ K ≤ 9007199254740992 ∧ (L = 0 ∨ (4503599627370496 * 2 ^ b ≤ m * 2 ^ a)) := by
  unfold rnd
  rw [if_neg h0]
  have lo : 2 ^ m.log2 ≤ m := Nat.log2_self_le h0
  have hi : m < 2 ^ (m.log2 + 1) := Nat.lt_log2_self
  generalize hg : m.log2 = lg at *
  obtain ⟨L, hL⟩ : ∃ L : Nat, max (p + (lg : Int) - 52) (-1074) = -1074 + (L : Int) := ⟨(max (p + (lg : Int) - 52) (-1074) + 1074).toNat, by omega⟩
  rw [hL]
  obtain ⟨a, ha⟩ : ∃ a, a = (p - (-1074 + (L : Int))).toNat := ⟨_, rfl⟩
  obtain ⟨b, hb⟩ : ∃ b, b = (-1074 + (L : Int) - p).toNat := ⟨_, rfl⟩
  rw [← ha, ← hb, Nat.shiftLeft_eq]
  have hab : a + (D + L) = b + k := by omega
  have h1 : lg + a ≤ 52 + b := by omega
  refine ⟨L, _, a, b, by rw [show (-1074 + (L : Int) + 1074).toNat = L by omega], rfl, hab, ?_, ?_⟩
  · refine cut_le _ _ _ _ ?_
    have e1 : 2 ^ (lg + 1) * 2 ^ a = 2 ^ (lg + 1 + a) := (Nat.pow_add 2 _ _).symm
    have e2 : 2 ^ (lg + 1 + a) ≤ 2 ^ (53 + b) := Nat.pow_le_pow_right (by omega) (by omega)
    have e3 : 2 ^ (53 + b) = 9007199254740992 * 2 ^ b := Nat.pow_add 2 53 b
    have e4 : m * 2 ^ a ≤ 2 ^ (lg + 1) * 2 ^ a := Nat.mul_le_mul_right _ (by omega)
    omega
  · by_cases hl : L = 0
    · exact .inl hl
    · refine .inr ?_
      have h2 : lg + a = 52 + b := by omega
      have e1 : 2 ^ lg * 2 ^ a = 2 ^ (lg + a) := (Nat.pow_add 2 _ _).symm
      have e3 : 2 ^ (52 + b) = 4503599627370496 * 2 ^ b := Nat.pow_add 2 52 b
      have e4 : 2 ^ lg * 2 ^ a ≤ m * 2 ^ a := Nat.mul_le_mul_right _ lo
      rw [h2] at e1
      omega
theorem val_lt53 (r : Nat) : val r < 9007199254740992 * 2 ^ expo r := by
  unfold val; exact Nat.mul_lt_mul_of_pos_right (mant_lt r) (Nat.two_pow_pos _)
theorem rnd_le (m : Nat) (p : Int) (D k r : Nat) (hp : p = -1074 - (D : Int) + (k : Int)) (hr : r < 9218868437227405312) (h : m * 2 ^ k ≤ val r * 2 ^ D) : rnd m p ≤ r := by
  by_cases h0 : m = 0
  · unfold rnd; rw [if_pos h0]; omega
  obtain ⟨L, K, a, b, e, hK, hab, h53, h52⟩ := rnd_parts m p D k hp h0
  rw [e]
  have hx : m * 2 ^ a * 2 ^ (D + L) = m * 2 ^ k * 2 ^ b := by rw [Nat.mul_assoc, Nat.mul_assoc, ← Nat.pow_add, ← Nat.pow_add, hab, Nat.add_comm]
  have hp2 : 0 < 2 ^ (D + L) := Nat.two_pow_pos _
  have hpb : 0 < 2 ^ b := Nat.two_pow_pos _
  have hm : m * 2 ^ k * 2 ^ b ≤ val r * 2 ^ D * 2 ^ b := Nat.mul_le_mul_right _ h
  by_cases hl : L ≤ expo r
  · have hv : val r = mant r * 2 ^ (expo r - L) * 2 ^ L := by unfold val; rw [Nat.mul_assoc, ← Nat.pow_add, show expo r - L + L = expo r by omega]
    have hk : K ≤ mant r * 2 ^ (expo r - L) := by
      rw [hK]
      refine cut_le _ _ _ _ ?_
      refine Nat.le_of_mul_le_mul_right ?_ hp2
      rw [hx]
      refine Nat.le_trans hm (Nat.le_of_eq ?_)
      rw [hv, Nat.pow_add 2 D L]; ac_rfl
    have hw : L = 0 ∨ 4503599627370496 ≤ K := h52.imp id (fun h => by rw [hK]; exact cut_ge _ _ _ _ h)
    have hR : val (L * 4503599627370496 + K) ≤ val r := by rw [val_kept L K h53 hw, hv]; exact Nat.mul_le_mul_right _ hk
    have : L * 4503599627370496 + K ≤ r := by
      rcases Nat.lt_or_ge r (L * 4503599627370496 + K) with h1 | h1
      · have := val_lt _ _ h1; omega
      · exact h1
    omega
  · exfalso
    have h5 : 4503599627370496 * 2 ^ b ≤ m * 2 ^ a := by rcases h52 with h | h; omega; exact h
    have h6 : 4503599627370496 * 2 ^ b * 2 ^ (D + L) ≤ val r * 2 ^ D * 2 ^ b := by
      refine Nat.le_trans (Nat.mul_le_mul_right _ h5) ?_
      rw [hx]; exact hm
    have h7 : val r < 4503599627370496 * 2 ^ L := by
      refine Nat.lt_of_lt_of_le (val_lt53 r) ?_
      have e1 : 2 ^ (expo r + 1) ≤ 2 ^ L := Nat.pow_le_pow_right (by omega) (by omega)
      rw [Nat.pow_succ] at e1
      omega
    have h8 : val r * (2 ^ D * 2 ^ b) < 4503599627370496 * 2 ^ L * (2 ^ D * 2 ^ b) := Nat.mul_lt_mul_of_pos_right h7 (Nat.mul_pos (Nat.two_pow_pos _) hpb)
    have e1 : 4503599627370496 * 2 ^ b * 2 ^ (D + L) = 4503599627370496 * 2 ^ L * (2 ^ D * 2 ^ b) := by rw [Nat.pow_add 2 D L]; ac_rfl
    have e2 : val r * 2 ^ D * 2 ^ b = val r * (2 ^ D * 2 ^ b) := Nat.mul_assoc _ _ _
    omega
theorem rnd_ge (m : Nat) (p : Int) (D k r : Nat) (hp : p = -1074 - (D : Int) + (k : Int)) (hr : r < 9218868437227405312) (h : val r * 2 ^ D ≤ m * 2 ^ k) : r ≤ rnd m p := by
  by_cases h0 : m = 0
  · subst h0
    have h1 : val r = 0 := by
      have := Nat.two_pow_pos D
      rcases Nat.eq_zero_or_pos (val r) with h2 | h2
      · exact h2
      · have := Nat.mul_pos h2 this; omega
    rcases Nat.eq_zero_or_pos r with h2 | h2
    · omega
    · have := val_lt 0 r h2; omega
  obtain ⟨L, K, a, b, e, hK, hab, h53, h52⟩ := rnd_parts m p D k hp h0
  rw [e]
  have hx : m * 2 ^ a * 2 ^ (D + L) = m * 2 ^ k * 2 ^ b := by rw [Nat.mul_assoc, Nat.mul_assoc, ← Nat.pow_add, ← Nat.pow_add, hab, Nat.add_comm]
  have hp2 : 0 < 2 ^ (D + L) := Nat.two_pow_pos _
  have hm : val r * 2 ^ D * 2 ^ b ≤ m * 2 ^ k * 2 ^ b := Nat.mul_le_mul_right _ h
  have hw : L = 0 ∨ 4503599627370496 ≤ K := h52.imp id (fun h => by rw [hK]; exact cut_ge _ _ _ _ h)
  have hR : val r ≤ val (L * 4503599627370496 + K) := by
    rw [val_kept L K h53 hw]
    by_cases hl : L ≤ expo r
    · have hv : val r = mant r * 2 ^ (expo r - L) * 2 ^ L := by unfold val; rw [Nat.mul_assoc, ← Nat.pow_add, show expo r - L + L = expo r by omega]
      rw [hv]
      refine Nat.mul_le_mul_right _ ?_
      rw [hK]
      refine cut_ge _ _ _ _ ?_
      refine Nat.le_of_mul_le_mul_right ?_ hp2
      rw [hx]
      refine Nat.le_trans (Nat.le_of_eq ?_) hm
      rw [hv, Nat.pow_add 2 D L]; ac_rfl
    · have h7 : val r < 4503599627370496 * 2 ^ L := by
        refine Nat.lt_of_lt_of_le (val_lt53 r) ?_
        have e1 : 2 ^ (expo r + 1) ≤ 2 ^ L := Nat.pow_le_pow_right (by omega) (by omega)
        rw [Nat.pow_succ] at e1
        omega
      have h8 : 4503599627370496 ≤ K := by rcases hw with h | h; omega; exact h
      exact Nat.le_of_lt (Nat.lt_of_lt_of_le h7 (Nat.mul_le_mul_right _ h8))
  have : r ≤ L * 4503599627370496 + K := by
    rcases Nat.lt_or_ge (L * 4503599627370496 + K) r with h1 | h1
    · have := val_lt _ _ h1; omega
    · exact h1
  omega
/-- The word x is a number between lo and hi, told in units of 2^-60. -/
def Iv (x : Nat) (lo hi : Int) : Prop := ∃ s r, x = wd s r ∧ r < 9218868437227405312 ∧ lo * (pw 1014 : Nat) ≤ sg s (val r) ∧ sg s (val r) ≤ hi * (pw 1014 : Nat)
/-- c units of 2^-60 is a word's value. -/
def Fit (c : Nat) : Prop := ∃ r, r < 9218868437227405312 ∧ val r = c * pw 1014
theorem pw_eq (n : Nat) : pw n = 2 ^ n := rfl
theorem fit_zero : Fit 0 := ⟨0, by omega, by unfold val mant; simp⟩
theorem fit_at (m k : Nat) (h : m < 9007199254740992) (hk : k ≤ 1000) : Fit (m * 2 ^ k) := by
  by_cases h0 : m = 0
  · subst h0; rw [Nat.zero_mul]; exact fit_zero
  · have hl : m.log2 < 53 := (Nat.log2_lt h0).2 h
    obtain ⟨r, -, h2, h3⟩ := nearP false m (k + 1014) h0 h (by omega)
    exact ⟨r, h2, by rw [h3, pw_add, ← Nat.mul_assoc, pw_eq k]⟩
theorem fit_of (c m k : Nat) (h : m < 9007199254740992) (hk : k ≤ 1000) (hc : c = m * 2 ^ k) : Fit c := hc ▸ fit_at m k h hk
theorem sgf (v : Nat) : sg false v = (v : Int) := rfl
theorem sgt (v : Nat) : sg true v = -(v : Int) := rfl
theorem sg_nonneg (s : Bool) (v : Nat) : 0 ≤ v := Nat.zero_le _
/-- What is written of a number within bounds is within the bounds. -/
theorem iv_write (s : Bool) (m : Nat) (p : Int) (D k : Nat) (lo hi : Int) (hp : p = -1074 - (D : Int) + (k : Int)) (fl : Fit lo.natAbs) (fh : Fit hi.natAbs)
    (h1 : lo * (pw 1014 : Nat) * (pw D : Nat) ≤ sg s (m * pw k)) (h2 : sg s (m * pw k) ≤ hi * (pw 1014 : Nat) * (pw D : Nat)) : Iv (Ieee.double.nearest s m p) lo hi := by
  rw [pw_eq D, pw_eq k] at h1 h2
  have hP := pw_pos 1014
  have hD : 0 < 2 ^ D := Nat.two_pow_pos D
  obtain ⟨rl, a1, a2⟩ := fl
  obtain ⟨rh, b1, b2⟩ := fh
  unfold Iv
  generalize pw 1014 = P at *
  have hPD : (0 : Int) < (P : Int) * ((2 ^ D : Nat) : Int) := Int.mul_pos (by omega) (by omega)
  cases s
  · rw [sgf] at h1 h2
    have hh : 0 ≤ hi := by
      rcases Int.lt_or_le hi 0 with h | h
      · exfalso
        have : hi * P * (2 ^ D : Nat) < 0 := by rw [Int.mul_assoc]; exact Int.mul_neg_of_neg_of_pos h hPD
        omega
      · exact h
    obtain ⟨c, rfl⟩ := Int.eq_ofNat_of_zero_le hh
    have hle : rnd m p ≤ rh := rnd_le m p D k rh hp b1 (by
      rw [b2]; show m * 2 ^ k ≤ (c : Int).natAbs * P * 2 ^ D
      rw [Int.natAbs_natCast]
      exact Int.ofNat_le.1 (by simpa using h2))
    have hvh : val (rnd m p) ≤ c * P := by
      have := val_le _ _ hle; rw [b2, Int.natAbs_natCast] at this; exact this
    refine ⟨false, rnd m p, nearest_rnd _ _ _, by omega, ?_, by rw [sgf]; exact_mod_cast hvh⟩
    rw [sgf]
    rcases Int.lt_or_le lo 0 with h | h
    · have : lo * (P : Int) ≤ 0 := Int.mul_nonpos_of_nonpos_of_nonneg (by omega) (by omega)
      omega
    · obtain ⟨c', rfl⟩ := Int.eq_ofNat_of_zero_le h
      have hge : rl ≤ rnd m p := rnd_ge m p D k rl hp a1 (by
        rw [a2, Int.natAbs_natCast]
        exact Int.ofNat_le.1 (by simpa using h1))
      have := val_le _ _ hge
      rw [a2, Int.natAbs_natCast] at this
      exact_mod_cast this
  · rw [sgt] at h1 h2
    have hh : lo ≤ 0 := by
      rcases Int.lt_or_le 0 lo with h | h
      · exfalso
        have : 0 < lo * P * (2 ^ D : Nat) := by rw [Int.mul_assoc]; exact Int.mul_pos h hPD
        omega
      · exact h
    obtain ⟨c, hc⟩ := Int.eq_ofNat_of_zero_le (show 0 ≤ -lo by omega)
    have el : lo = -(c : Int) := by omega
    subst el
    rw [Int.natAbs_neg, Int.natAbs_natCast] at a2
    have hle : rnd m p ≤ rl := rnd_le m p D k rl hp a1 (by
      rw [a2]
      have : ((m * 2 ^ k : Nat) : Int) ≤ ((c * P * 2 ^ D : Nat) : Int) := by
        rw [Int.neg_mul, Int.neg_mul] at h1
        have := Int.neg_le_neg_iff.1 h1
        simpa using this
      exact Int.ofNat_le.1 this)
    have hvh : val (rnd m p) ≤ c * P := by
      have := val_le _ _ hle; rw [a2] at this; exact this
    refine ⟨true, rnd m p, nearest_rnd _ _ _, by omega, ?_, ?_⟩
    · rw [sgt, Int.neg_mul]
      have : ((val (rnd m p) : Nat) : Int) ≤ ((c * P : Nat) : Int) := Int.ofNat_le.2 hvh
      rw [Int.natCast_mul] at this
      omega
    · rw [sgt]
      rcases Int.lt_or_le hi 0 with h | h
      · obtain ⟨c', hc'⟩ := Int.eq_ofNat_of_zero_le (show 0 ≤ -hi by omega)
        have el : hi = -(c' : Int) := by omega
        subst el
        rw [Int.natAbs_neg, Int.natAbs_natCast] at b2
        have hge : rh ≤ rnd m p := rnd_ge m p D k rh hp b1 (by
          rw [b2]
          have : ((c' * P * 2 ^ D : Nat) : Int) ≤ ((m * 2 ^ k : Nat) : Int) := by
            rw [Int.neg_mul, Int.neg_mul] at h2
            have := Int.neg_le_neg_iff.1 h2
            simpa using this
          exact Int.ofNat_le.1 this)
        have := val_le _ _ hge
        rw [b2] at this
        have : ((c' * P : Nat) : Int) ≤ ((val (rnd m p) : Nat) : Int) := Int.ofNat_le.2 this
        rw [Int.natCast_mul] at this
        rw [Int.neg_mul]
        omega
      · have : 0 ≤ hi * (P : Int) := Int.mul_nonneg h (by omega)
        omega

end Go.Proofs.Ytaodoehkkfkjbad
