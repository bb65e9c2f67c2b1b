/-
  Lemmas shared by several laws of this seat; no statement of their own.
-/
import Derived.Test.YtlmjnlijoodbiaaDoorRows
import Derived.WalkKit
import Derived.ProofKit
import Derived.OpenShut
import Derived.Test.YtlmjnlijoodbiaaDoorSlW
import Derived.WalkLawsBesides
import Derived.WalkSpells
import Derived.Below
import Derived.Lib.Hide
import Derived.Outline
import Derived.Laws.MakeOwn
import Derived.LoopTactic
import Derived.Deep.QuietTactic
import Derived.BigQuiet
namespace Go.Proofs.YtlmjnlijoodbiaaDoor
open Go.ChangeShapes Go.WideShapes Go.ChangeAt Go.RowKit

set_option linter.unusedVariables false

set_option maxHeartbeats 1000000 in
theorem eq_u16 (A B : Option Addr) (n m c d : Nat) (us vs : List Int) (w : World) (hs : Sl w w.heap.size A n (us.map (Value.int .u16))) (ht : Sl w w.heap.size B m (vs.map (Value.int .u16))) (hn : n ≤ big20) (hm : m ≤ big20) :
    Calls Tryd.prog 12 #[.slice A n c, .slice B m d] w fun e w' => e = .returned (.bool (decide (us = vs))) ∧ ∃ q, w' = w.drewN q := by
  have h1 : us.length = n := by have := hs.1; simpa using this
  have h2 : vs.length = m := by have := ht.1; simpa using this
  have hnb : n ≤ 9223372036854775807 := by have := big20_le hn; omega
  have hmb : m ≤ 9223372036854775807 := by have := big20_le hm; omega
  by_cases hnm : n = m
  · subst hnm
    have H1 := Lib.hid h1
    have H2 := Lib.hid h2
    clear h1 h2
    go_enter Tryd.func12, Tryd.ntmps12
    go_wp2_with fail
    go_loopw [5] (fun i wr => ∃ k q : Nat, k ≤ n ∧ i = .int .i64 k ∧ us.take k = vs.take k ∧ wr = w.drewN q) (fun i _ => n - (intOf i).toNat)
    case atStart => exact ⟨0, 0, by omega, rfl, rfl, rfl⟩
    case round =>
      obtain ⟨k, q, hk, rfl, heq, rfl⟩ := hrel
      have HEQ := Lib.hid heq
      clear heq
      by_cases hlt : k < n
      · obtain ⟨b1, o1, u1, rfl, _, hu1, hc1⟩ := hs.at_ hlt
        obtain ⟨b2, o2, u2, rfl, _, hu2, hc2⟩ := ht.at_ hlt
        obtain ⟨x, hx, rfl⟩ : ∃ x, us[k]? = some x ∧ Value.int .u16 x = u1 := by simpa using hu1
        obtain ⟨y, hy, rfl⟩ : ∃ y, vs[k]? = some y ∧ Value.int .u16 y = u2 := by simpa using hu2
        have HX := Lib.hid hx
        have HY := Lib.hid hy
        clear hx hy hu1 hu2
        have g1 : (w.drewN q).cell? ⟨b1, o1 + k, none⟩ = some (.int .u16 x) := hc1
        have g2 : (w.drewN q).cell? ⟨b2, o2 + k, none⟩ = some (.int .u16 y) := hc2
        have l1 : ((k : Nat) : Int) < n := by omega
        have l0 : (0 : Int) ≤ ((k : Nat) : Int) := by omega
        cases hxy : (x != y)
        · go_wp2_with fail
          go_quiet (fail)
          go_wp2_with fail
          go_roundw
          case rel =>
            refine ⟨k + 1, _, by omega, by go_num, ?_, rfl⟩
            rw [take_snoc' us k x HX.out, take_snoc' vs k y HY.out, HEQ.out]
            simp at hxy; rw [hxy]
          case measure => simp [intOf]; omega
        · go_wp2_with fail
          go_quiet (fail)
          go_wp2_with fail
          go_ret
          refine ⟨ret_bool ?_, _, World.drewN_drewN _ _ _⟩
          simp at hxy
          symm
          rw [decide_eq_false_iff_not]
          intro e
          have hx := HX.out
          have hy := HY.out
          rw [e, hy] at hx
          injection hx with hx
          exact hxy hx.symm
      · obtain rfl : k = n := by omega
        go_wp2_with fail
        go_ret
        refine ⟨ret_bool ?_, _, rfl⟩
        have h := HEQ.out
        rw [take_eq_of_len us k (by rw [H1.out]; omega), take_eq_of_len vs k (by rw [H2.out]; omega)] at h
        simp [h]
  · have hne : ((n : Int) != m) = true := by simp; omega
    have H1 := Lib.hid h1
    have H2 := Lib.hid h2
    clear h1 h2
    go_enter Tryd.func12, Tryd.ntmps12
    go_wp2_with fail
    go_ret
    refine ⟨ret_bool ?_, 0, rfl⟩
    symm
    rw [decide_eq_false_iff_not]
    intro e
    have a := H1.out
    have b := H2.out
    rw [e] at a
    omega

end Go.Proofs.YtlmjnlijoodbiaaDoor
