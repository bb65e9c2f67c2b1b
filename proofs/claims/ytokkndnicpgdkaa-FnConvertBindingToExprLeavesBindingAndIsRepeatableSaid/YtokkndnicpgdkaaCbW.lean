/-
  The words of the binding stream: their bits; no statement of its own.
-/
import Derived.Test.YtokkndnicpgdkaaRows
import Derived.WalkKit
import Derived.ProofKit
import Derived.OpenShut
import Derived.Test.YtokkndnicpgdkaaSlW
import Derived.WalkLawsBesides
import Derived.Laws.BitsAllLaws
namespace Go.Proofs.Ytokkndnicpgdkaa
open Go.ChangeShapes Go.WideShapes Go.ChangeAt Go.RowKit

set_option linter.unusedVariables false

theorem and_mask (t k : Nat) (ht : t < 4294967296) (hk : k ≤ 31) : bits .and .u32 (t : Int) ((2 ^ k - 1 : Nat) : Int) = ((t % 2 ^ k : Nat) : Int) := by
  have h1 : 2 ^ k ≤ 2 ^ 31 := Nat.pow_le_pow_right (by omega) hk
  have h2 : 0 < 2 ^ k := Nat.two_pow_pos k
  rw [u32_and_nat t (2 ^ k - 1) ht (by omega), Nat.and_two_pow_sub_one_eq_mod]
theorem and3 (t : Nat) (ht : t < 4294967296) : bits .and .u32 (t : Int) 3 = ((t % 4 : Nat) : Int) := and_mask t 2 ht (by omega)
theorem and1 (t : Nat) (ht : t < 4294967296) : bits .and .u32 (t : Int) 1 = ((t % 2 : Nat) : Int) := and_mask t 1 ht (by omega)
theorem and15 (t : Nat) (ht : t < 4294967296) : bits .and .u32 (t : Int) 15 = ((t % 16 : Nat) : Int) := and_mask t 4 ht (by omega)
theorem nat_and_pow (t k : Nat) : t &&& 2 ^ k = 2 ^ k * (t / 2 ^ k % 2) := by
  apply Nat.eq_of_testBit_eq
  intro i
  rw [Nat.testBit_and, Nat.testBit_two_pow, Nat.testBit_two_pow_mul]
  by_cases h : k = i
  · subst h
    simp [Nat.testBit, Nat.shiftRight_eq_div_pow, Nat.one_and_eq_mod_two]
  · simp only [h, decide_false, Bool.and_false]
    by_cases h2 : i ≥ k
    · have : i - k ≠ 0 := by omega
      obtain ⟨j, hj⟩ : ∃ j, i - k = j + 1 := ⟨i - k - 1, by omega⟩
      have h3 : (t / 2 ^ k % 2) < 2 ^ (j + 1) := Nat.lt_of_lt_of_le (Nat.mod_lt _ (by omega)) (by rw [Nat.pow_succ]; have := Nat.two_pow_pos j; omega)
      rw [hj, Nat.testBit_lt_two_pow h3]; simp
    · simp [h2]
theorem and2 (t : Nat) (ht : t < 4294967296) : bits .and .u32 (t : Int) 2 = ((2 * (t / 2 % 2) : Nat) : Int) := by
  have h := u32_and_nat t 2 ht (by omega)
  rw [show t &&& 2 = 2 * (t / 2 % 2) from nat_and_pow t 1] at h
  exact h
theorem and4 (t : Nat) (ht : t < 4294967296) : bits .and .u32 (t : Int) 4 = ((4 * (t / 4 % 2) : Nat) : Int) := by
  have h := u32_and_nat t 4 ht (by omega)
  rw [show t &&& 4 = 4 * (t / 4 % 2) from nat_and_pow t 2] at h
  exact h
/-- Bits that don't meet add up. -/
theorem or_low (a x k : Nat) (ha : a < 2 ^ k) (hx : 2 ^ k * x < 4294967296) (hs : a < 4294967296) : bits .or .u32 (a : Int) ((2 ^ k * x : Nat) : Int) = ((a + 2 ^ k * x : Nat) : Int) := by
  rw [u32_or_nat a (2 ^ k * x) hs hx, Nat.or_comm, ← Nat.two_pow_add_eq_or_of_lt ha, Nat.add_comm]
theorem or_high (a x k : Nat) (ha : a < 2 ^ k) (hx : 2 ^ k * x < 4294967296) (hs : a < 4294967296) : bits .or .u32 ((2 ^ k * x : Nat) : Int) (a : Int) = ((a + 2 ^ k * x : Nat) : Int) := by
  rw [u32_or_nat (2 ^ k * x) a hx hs, ← Nat.two_pow_add_eq_or_of_lt ha, Nat.add_comm]

end Go.Proofs.Ytokkndnicpgdkaa
