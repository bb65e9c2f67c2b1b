/-
  The two size guards of the law; no statement of its own.
-/
import Derived.Test.YtlmjnlijoodbiaaDoorRows
import Derived.WalkKit
import Derived.ProofKit
import Derived.OpenShut
import Derived.Test.YtlmjnlijoodbiaaDoorSlW
import Derived.Test.YtlmjnlijoodbiaaDoorIpM
import Derived.WalkLawsBesides
import Derived.WalkSpells
import Derived.Below
import Derived.Lib.Hide
import Derived.Outline
import Derived.OwnWalk
import Derived.LoopTactic
import Derived.RegionTactic
import Derived.Deep.QuietTactic
import Derived.BigQuiet
namespace Go.Proofs.YtlmjnlijoodbiaaDoor
open Go.ChangeShapes Go.WideShapes Go.ChangeAt Go.RowKit

set_option linter.unusedVariables false

/-- A slice of slices of code units, as handed in. -/
def Rws (w : World) (B : Nat) (a : Option Addr) (n : Nat) (vv : Nat → Value) (V : Nat → List Int) : Prop :=
  ∀ i, i < n → ∃ b off, a = some ⟨b, off, none⟩ ∧ b < B ∧ w.cell? ⟨b, off + i, none⟩ = some (vv i) ∧ ∃ A c, vv i = .slice A (V i).length c ∧ Sl w B A (V i).length ((V i).map (Value.int .u16)) ∧ (A = none → (V i).length = 0 ∧ c = 0)
theorem Rws.below {w w' : World} {B : Nat} {a : Option Addr} {n : Nat} {vv : Nat → Value} {V : Nat → List Int} (h : Rws w B a n vv V) (hb : Below B w w') : Rws w' B a n vv V := fun i hi => by
  obtain ⟨b, off, h1, h2, h3, A, c, h4, h5, h6⟩ := h i hi
  exact ⟨b, off, h1, h2, (hb.cell (p := ⟨b, off + i, none⟩) h2).trans h3, A, c, h4, h5.below hb, h6⟩
/-- Sum of the first n lengths. -/
def sumN (V : Nat → List Int) : Nat → Nat
  | 0 => 0
  | k + 1 => sumN V k + (V k).length
theorem sumN_le (V : Nat → List Int) : ∀ n k, k < n → sumN V k + (V k).length ≤ sumN V n := by
  intro n
  induction n with
  | zero => intro k hk; omega
  | succ n ih =>
    intro k hk
    rcases Nat.lt_or_ge k n with h | h
    · have := ih k h; simp only [sumN]; omega
    · obtain rfl : k = n := by omega
      simp only [sumN]; omega
def Som (w : World) (e : Ending) (w' : World) : Prop := w' = w ∧ ∃ r : Int, e = .returned (.int .i64 r)
set_option maxRecDepth 100000 in
set_option maxHeartbeats 1000000 in
theorem nested (w : World) (a : Option Addr) (n c : Nat) (vv : Nat → Value) (V : Nat → List Int) (h : Rws w w.heap.size a n vv V) (hn : n ≤ 4096) : Calls Tryd.prog 5 #[.slice a n c] w (Som w) := by
  have H := Lib.hid h
  clear h
  go_enter Tryd.func5, Tryd.ntmps5
  go_wp2_with fail
  go_loopw [3, 4] (fun t i wr => ∃ (k s : Nat), k ≤ n ∧ i = .int .i64 k ∧ t = .int .i64 s ∧ s ≤ 1048576 ∧ wr = w) (fun _ i _ => n - (intOf i).toNat)
  case atStart => exact ⟨0, 0, by omega, rfl, rfl, by omega, rfl⟩
  case round =>
    obtain ⟨k, s, hk, rfl, rfl, hs, rfl⟩ := hrel
    by_cases hlt : k < n
    · obtain ⟨b, off, rfl, hb, hc, A, c', hv, -, -⟩ := H.out k hlt
      rw [hv] at hc
      have l0 : (0 : Int) ≤ (k : Int) := by omega
      have l1 : (k : Int) < (n : Int) := by omega
      by_cases hl : (V k).length ≤ 1048576
      · have hl' : decide (((V k).length : Int) > 1048576) = false := decide_eq_false (by omega)
        by_cases ht : s + (24 + 2 * (V k).length) ≤ 1048576
        · go_wp2_with fail
          go_roundw
          case rel => exact ⟨k + 1, s + (24 + 2 * (V k).length), by omega, by go_num, by go_num, by omega, by trivial⟩
          case measure => simp [intOf]; omega
        · go_wp2_with fail
          go_ret
          exact ⟨rfl, _, rfl⟩
      · go_wp2_with fail
        go_ret
        exact ⟨rfl, _, rfl⟩
    · obtain rfl : k = n := by omega
      go_wp2_with fail
      go_ret
      exact ⟨rfl, _, rfl⟩
def Byt (w : World) (m : Nat) (e : Ending) (w' : World) : Prop := w' = w ∧ ∃ b, e = .returned (.bool b) ∧ (b = true → m ≤ 1048576)
set_option maxRecDepth 100000 in
set_option maxHeartbeats 4000000 in
theorem bytes (w : World) (a0 a1 a2 a3 : Option Addr) (n0 c0 n1 c1 n2 c2 n3 c3 : Nat) (tg : Bool) (lo hl : Int) (v2 v3 : Nat → Value) (V2 V3 : Nat → List Int) (h0 : n0 ≤ maxLen) (h1 : n1 ≤ maxLen) (h2 : Rws w w.heap.size a2 n2 v2 V2) (h3 : Rws w w.heap.size a3 n3 v3 V3) (b2 : n2 ≤ maxLen) (b3 : n3 ≤ maxLen) :
    Calls Tryd.prog 4 #[.slice a0 n0 c0, .slice a1 n1 c1, .slice a2 n2 c2, .slice a3 n3 c3, .bool tg, .int .i32 lo, .int .i32 hl] w (Byt w (n0 + n1 + n2 + sumN V2 n2 + n3 + sumN V3 n3)) := by
  have H2 := Lib.hid h2
  have H3 := Lib.hid h3
  unfold maxLen at h0 h1 b2 b3
  clear h2 h3
  by_cases e0 : n0 ≤ 1048576
  rotate_left
  · go_enter Tryd.func4, Tryd.ntmps4
    go_wp2_with fail
    go_ret
    exact ⟨rfl, _, rfl, fun h => by cases h⟩
  by_cases e1 : n0 + n1 ≤ 1048576
  rotate_left
  · go_enter Tryd.func4, Tryd.ntmps4
    by_cases e1' : n1 ≤ 1048576
    · go_wp2_with fail
      go_ret
      exact ⟨rfl, _, rfl, fun h => by cases h⟩
    · go_wp2_with fail
      go_ret
      exact ⟨rfl, _, rfl, fun h => by cases h⟩
  by_cases e2 : n0 + n1 + n2 ≤ 1048576
  rotate_left
  · go_enter Tryd.func4, Tryd.ntmps4
    by_cases e2' : n2 ≤ 1048576
    · go_wp2_with fail
      go_ret
      exact ⟨rfl, _, rfl, fun h => by cases h⟩
    · go_wp2_with fail
      go_ret
      exact ⟨rfl, _, rfl, fun h => by cases h⟩
  go_enter Tryd.func4, Tryd.ntmps4
  go_wp2_with fail
  go_loopw [15, 16] (fun t i wr => ∃ k : Nat, k ≤ n2 ∧ i = .int .i64 k ∧ t = .int .i64 ((n0 + n1 + n2 + sumN V2 k : Nat) : Int) ∧ n0 + n1 + n2 + sumN V2 k ≤ 1048576 ∧ wr = w) (fun _ i _ => n2 - (intOf i).toNat)
  case atStart => exact ⟨0, by omega, rfl, by go_num, by simpa [sumN] using e2, rfl⟩
  case round =>
    obtain ⟨k, hk, rfl, rfl, hs, rfl⟩ := hrel
    by_cases hlt : k < n2
    · obtain ⟨b, off, rfl, hb, hc, A, c', hv, -, -⟩ := H2.out k hlt
      rw [hv] at hc
      have l0 : (0 : Int) ≤ (k : Int) := by omega
      have l1 : (k : Int) < (n2 : Int) := by omega
      by_cases hl : (V2 k).length ≤ 1048576
      · by_cases ht : n0 + n1 + n2 + sumN V2 k + (V2 k).length ≤ 1048576
        · go_wp2_with fail
          go_roundw
          case rel => exact ⟨k + 1, by omega, by go_num, by simp only [sumN]; go_num, by simp only [sumN]; omega, by trivial⟩
          case measure => simp [intOf]; omega
        · go_wp2_with fail
          go_ret
          exact ⟨rfl, _, rfl, fun h => by cases h⟩
      · go_wp2_with fail
        go_ret
        exact ⟨rfl, _, rfl, fun h => by cases h⟩
    · obtain rfl : k = n2 := by omega
      by_cases e3 : n3 ≤ 1048576
      · by_cases e4 : n0 + n1 + k + sumN V2 k + n3 ≤ 1048576
        · go_wp2_with fail
          go_loopw [15, 17] (fun t i wr' => ∃ j : Nat, j ≤ n3 ∧ i = .int .i64 j ∧ t = .int .i64 ((n0 + n1 + k + sumN V2 k + n3 + sumN V3 j : Nat) : Int) ∧ n0 + n1 + k + sumN V2 k + n3 + sumN V3 j ≤ 1048576 ∧ wr' = wr) (fun _ i _ => n3 - (intOf i).toNat)
          case atStart => exact ⟨0, by omega, rfl, by simp only [sumN]; go_num, by simpa [sumN] using e4, rfl⟩
          case round =>
            obtain ⟨j, hj, rfl, rfl, hs', rfl⟩ := hrel
            by_cases hlt : j < n3
            · obtain ⟨b, off, rfl, hb, hc, A, c', hv, -, -⟩ := H3.out j hlt
              rw [hv] at hc
              have l0 : (0 : Int) ≤ (j : Int) := by omega
              have l1 : (j : Int) < (n3 : Int) := by omega
              by_cases hl : (V3 j).length ≤ 1048576
              · by_cases ht : n0 + n1 + k + sumN V2 k + n3 + sumN V3 j + (V3 j).length ≤ 1048576
                · go_wp2_with fail
                  go_roundw
                  case rel => exact ⟨j + 1, by omega, by go_num, by simp only [sumN]; go_num, by simp only [sumN]; omega, by trivial⟩
                  case measure => simp [intOf]; omega
                · go_wp2_with fail
                  go_ret
                  exact ⟨rfl, _, rfl, fun h => by cases h⟩
              · go_wp2_with fail
                go_ret
                exact ⟨rfl, _, rfl, fun h => by cases h⟩
            · obtain rfl : j = n3 := by omega
              go_wp2_with fail
              go_ret
              exact ⟨rfl, _, rfl, fun _ => hs'⟩
        · go_wp2_with fail
          go_ret
          exact ⟨rfl, _, rfl, fun h => by cases h⟩
      · go_wp2_with fail
        go_ret
        exact ⟨rfl, _, rfl, fun h => by cases h⟩

end Go.Proofs.YtlmjnlijoodbiaaDoor
