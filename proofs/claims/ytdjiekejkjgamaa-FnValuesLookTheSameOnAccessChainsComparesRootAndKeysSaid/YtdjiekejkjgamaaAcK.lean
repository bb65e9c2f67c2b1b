/-
  Lemmas shared by several laws of this seat; no statement of their own.
-/
import Derived.Test.YtdjiekejkjgamaaRows
import Derived.WalkKit
import Derived.ProofKit
import Derived.OpenShut
import Derived.Test.YtdjiekejkjgamaaSlW
import Derived.Test.YtdjiekejkjgamaaExtW
import Derived.Test.YtdjiekejkjgamaaAcU
import Derived.Test.YtdjiekejkjgamaaAcR
import Derived.Test.YtdjiekejkjgamaaAcV
import Derived.Test.YtdjiekejkjgamaaAcI
import Derived.Test.YtdjiekejkjgamaaAcB
import Derived.Test.YtdjiekejkjgamaaAcC
import Derived.WalkLawsBesides
import Derived.WalkSpells
import Derived.Below
import Derived.Lib.Hide
import Derived.Outline
import Derived.LoopTactic
namespace Go.Proofs.Ytdjiekejkjgamaa
open Go.ChangeShapes Go.WideShapes Go.ChangeAt Go.RowKit

set_option linter.unusedVariables false

def stepAt (cs : List Int) (ns : List ByteArray) (k : Nat) : Int × ByteArray := ((cs[k]?.getD 0) % 3, nameAt ns k)
theorem key_any (A D B E : Option Addr) (n m n' m' c1 c2 c3 c4 : Nat) (cs ds : List Int) (ns ms : List ByteArray) (i : Nat) (w : World) (hA : Sl w w.heap.size A n (cs.map (Value.int .u8))) (hD : Sl w w.heap.size D m (ns.map Value.string)) (hB : Sl w w.heap.size B n' (ds.map (Value.int .u8))) (hE : Sl w w.heap.size E m' (ms.map Value.string)) (hcs : ∀ x ∈ cs, 0 ≤ x ∧ x ≤ 255) (hds : ∀ x ∈ ds, 0 ≤ x ∧ x ≤ 255) (b1 : n ≤ 65536) (b2 : m ≤ 65536) (b3 : n' ≤ 65536) (b4 : m' ≤ 65536) (h1 : i < n) (h2 : i < n') :
    Calls Try.prog 13 #[.slice A n c1, .slice D m c2, .slice B n' c3, .slice E m' c4, .int .i64 i] w fun e w' => e = .returned (.bool (stepEq (stepAt cs ns i) (stepAt ds ms i))) ∧ w = w' := by
  obtain ⟨p, o, u, rfl, hp, hu, hx⟩ := hA.at_ h1
  obtain ⟨q, o', u', rfl, hq, hu', hy⟩ := hB.at_ h2
  obtain ⟨x, hx', rfl⟩ : ∃ x, cs[i]? = some x ∧ Value.int .u8 x = u := by simpa using hu
  obtain ⟨y, hy', rfl⟩ : ∃ y, ds[i]? = some y ∧ Value.int .u8 y = u' := by simpa using hu'
  obtain ⟨x0, x1⟩ := hcs x (List.mem_of_getElem? hx')
  obtain ⟨y0, y1⟩ := hds y (List.mem_of_getElem? hy')
  have N1 := Lib.hid (name_any D m c2 ns i w hD (by omega) (by omega))
  have N2 := Lib.hid (name_any E m' c4 ms i w hE (by omega) (by omega))
  have Z := Lib.hid (show stepEq (stepAt cs ns i) (stepAt ds ms i) = (x % 3 == y % 3 && (x % 3 == 2 || (nameAt ns i).toList == (nameAt ms i).toList)) by unfold stepEq stepAt; rw [hx', hy']; rfl)
  rw [Z.out]
  clear hu hu' hx' hy' hA hB hD hE hcs hds Z
  generalize nameAt ns i = a at *
  generalize nameAt ms i = b at *
  cases t1 : (x % 3 == y % 3)
  · have t1' : (x % 3 != y % 3) = true := by rw [bne, t1]; rfl
    go_enter Try.func13, Try.ntmps13
    go_wp2_with fail
    go_ret
    exact ⟨rfl, rfl⟩
  · have t1' : (x % 3 != y % 3) = false := by rw [bne, t1]; rfl
    cases t2 : (x % 3 == 2)
    · go_enter Try.func13, Try.ntmps13
      go_wp2_with fail
      refine N1.out.mono ?_
      rintro e w1 ⟨rfl, rfl⟩
      go_wp2_with fail
      refine N2.out.mono ?_
      rintro e w1 ⟨rfl, rfl⟩
      go_wp2_with fail
      go_ret
      exact ⟨rfl, rfl⟩
    · go_enter Try.func13, Try.ntmps13
      go_wp2_with fail
      go_ret
      exact ⟨rfl, rfl⟩
/-- Do the first k steps agree? -/
def preB (cs ds : List Int) (ns ms : List ByteArray) : Nat → Bool
  | 0 => true
  | k + 1 => preB cs ds ns ms k && stepEq (stepAt cs ns k) (stepAt ds ms k)
theorem preB_false (cs ds : List Int) (ns ms : List ByteArray) (k : Nat) (h : stepEq (stepAt cs ns k) (stepAt ds ms k) = false) : ∀ j, k < j → preB cs ds ns ms j = false := by
  intro j hj
  induction j with
  | zero => omega
  | succ j ih =>
    unfold preB
    by_cases e : k = j
    · subst e; rw [h]; simp
    · rw [ih (by omega)]; rfl
theorem eqs_steps (cs ds : List Int) (ns ms : List ByteArray) : ∀ k, eqs (steps cs ns k) (steps ds ms k) = preB cs ds ns ms k
  | 0 => rfl
  | k + 1 => by unfold steps eqs preB; rw [eqs_steps cs ds ns ms k, Bool.and_comm]; rfl
theorem steps_len (cs : List Int) (ns : List ByteArray) : ∀ k, (steps cs ns k).length = k
  | 0 => rfl
  | k + 1 => by unfold steps; simp [steps_len cs ns k]
theorem eqs_len : ∀ (a b : List (Int × ByteArray)), a.length ≠ b.length → eqs a b = false
  | [], [], h => absurd rfl h
  | [], _ :: _, _ => rfl
  | _ :: _, [], _ => rfl
  | x :: a, y :: b, h => by unfold eqs; rw [eqs_len a b (by simpa using h)]; simp
theorem pre_any (A D B E : Option Addr) (n m n' m' c1 c2 c3 c4 : Nat) (cs ds : List Int) (ns ms : List ByteArray) (w : World) (hA : Sl w w.heap.size A n (cs.map (Value.int .u8))) (hD : Sl w w.heap.size D m (ns.map Value.string)) (hB : Sl w w.heap.size B n' (ds.map (Value.int .u8))) (hE : Sl w w.heap.size E m' (ms.map Value.string)) (hcs : ∀ x ∈ cs, 0 ≤ x ∧ x ≤ 255) (hds : ∀ x ∈ ds, 0 ≤ x ∧ x ≤ 255) (b1 : n ≤ 65536) (b2 : m ≤ 65536) (b3 : n' ≤ 65536) (b4 : m' ≤ 65536) (h1 : n ≤ n') :
    Calls Try.prog 9 #[.slice A n c1, .slice D m c2, .slice B n' c3, .slice E m' c4, .int .i64 n] w fun e w' => e = .returned (.bool (preB cs ds ns ms n)) ∧ w = w' := by
  have K := Lib.hid (fun i (hi : i < n) => key_any A D B E n m n' m' c1 c2 c3 c4 cs ds ns ms i w hA hD hB hE hcs hds b1 b2 b3 b4 hi (by omega))
  clear hA hB hD hE hcs hds
  obtain ⟨R, hR⟩ : ∃ R, R = preB cs ds ns ms n := ⟨_, rfl⟩
  rw [← hR]
  have HR := Lib.hid hR
  clear hR
  go_enter Try.func9, Try.ntmps9
  go_wp2_with fail
  go_loop [11] (fun i => ∃ k : Nat, k ≤ n ∧ i = .int .i64 k ∧ Hid (preB cs ds ns ms k = true)) (fun i => n - (intOf i).toNat)
  case atStart => exact ⟨0, by omega, rfl, rfl⟩
  case round =>
    obtain ⟨k, hk, rfl, HK⟩ := hrel
    by_cases hlt : k < n
    · go_wp2_with fail
      refine (K.out k hlt).mono ?_
      rintro e w1 ⟨rfl, rfl⟩
      cases t : stepEq (stepAt cs ns k) (stepAt ds ms k)
      · have Z := Lib.hid (preB_false cs ds ns ms k t n hlt)
        go_wp2_with fail
        go_ret
        exact ⟨ret_bool (by rw [HR.out, Z.out]), rfl⟩
      · have Z := Lib.hid (show preB cs ds ns ms (k + 1) = true by unfold preB; rw [HK.out, t]; rfl)
        clear t
        go_wp2_with fail
        go_round
        case rel => exact ⟨k + 1, by omega, by go_num, Z.out⟩
        case measure => simp [intOf]; omega
    · obtain rfl : k = n := by omega
      go_wp2_with fail
      go_ret
      exact ⟨ret_bool (by rw [HR.out, HK.out]), rfl⟩

end Go.Proofs.Ytdjiekejkjgamaa
