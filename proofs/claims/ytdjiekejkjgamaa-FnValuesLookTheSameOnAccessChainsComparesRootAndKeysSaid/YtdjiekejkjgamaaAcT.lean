/-
  Lemmas shared by several laws of this seat; no statement of their own.
-/
import Derived.Test.YtdjiekejkjgamaaRows
import Derived.WalkKit
import Derived.ProofKit
import Derived.OpenShut
import Derived.Test.YtdjiekejkjgamaaSlW
import Derived.WalkLawsBesides
import Derived.WalkSpells
import Derived.Below
import Derived.Lib.Hide
import Derived.Outline
import Derived.LoopTactic
namespace Go.Proofs.Ytdjiekejkjgamaa
open Go.ChangeShapes Go.WideShapes Go.ChangeAt Go.RowKit

set_option linter.unusedVariables false

def Byt (Q : Prop) (w : World) (e : Ending) (w' : World) : Prop := ∃ b, e = .returned (.bool b) ∧ w = w' ∧ (b = true → Q)
def AllB (ns : List ByteArray) (k : Nat) : Prop := ∀ j s, j < k → ns[j]? = some s → s.size ≤ big20
theorem AllB.next {ns : List ByteArray} {k : Nat} {s : ByteArray} (h : AllB ns k) (hk : ns[k]? = some s) (hs : s.size ≤ big20) : AllB ns (k + 1) := fun j t hj ht => by
  by_cases e : j = k
  · subst e; rw [hk] at ht; cases ht; exact hs
  · exact h j t (by omega) ht
theorem AllB.all {ns : List ByteArray} {k : Nat} (h : AllB ns k) (hl : ns.length ≤ k) : ∀ s ∈ ns, s.size ≤ big20 := fun s hs => by
  obtain ⟨j, hj, e⟩ := List.mem_iff_getElem.1 hs
  exact h j s (by omega) (by rw [List.getElem?_eq_getElem hj, e])
set_option maxRecDepth 100000 in
set_option maxHeartbeats 2000000 in
theorem bytes_any (x y : Int) (A D B E : Option Addr) (n m n' m' c1 c2 c3 c4 : Nat) (ns ms : List ByteArray) (w : World) (hD : Sl w w.heap.size D m (ns.map Value.string)) (hE : Sl w w.heap.size E m' (ms.map Value.string)) (hns : ∀ s ∈ ns, s.size ≤ 9223372036854775807) (hms : ∀ s ∈ ms, s.size ≤ 9223372036854775807) (b1 : n ≤ 9223372036854775807) (b2 : m ≤ 9223372036854775807) (b3 : n' ≤ 9223372036854775807) (b4 : m' ≤ 9223372036854775807) :
    Calls Try.prog 4 #[.int .u32 x, .slice A n c1, .slice D m c2, .int .u32 y, .slice B n' c3, .slice E m' c4] w (Byt (n ≤ big20 ∧ m ≤ big20 ∧ n' ≤ big20 ∧ m' ≤ big20 ∧ (∀ s ∈ ns, s.size ≤ big20) ∧ ∀ s ∈ ms, s.size ≤ big20) w) := by
  have ND := Lib.hid hns
  have NE := Lib.hid hms
  clear hns hms
  go_enter Try.func4, Try.ntmps4
  go_wp2_with fail
  all_goals try (go_ret; exact ⟨false, rfl, rfl, fun h => by cases h⟩)
  go_loop [13, 14] (fun z i => ∃ (k : Nat) (t : Int), k ≤ m ∧ i = .int .i64 k ∧ z = .int .i64 t ∧ 0 ≤ t ∧ t ≤ 1048576 ∧ Hid (AllB ns k)) (fun _ i => m - (intOf i).toNat)
  case atStart => exact ⟨0, _, by omega, rfl, rfl, by omega, by omega, fun j s hj => by omega⟩
  case round =>
    obtain ⟨k, t, hk, rfl, rfl, t0, t1, AB⟩ := hrel
    by_cases hlt : k < m
    · obtain ⟨b, off, u, rfl, hb, hu, hx⟩ := hD.at_ hlt
      obtain ⟨s, hs', rfl⟩ : ∃ s, ns[k]? = some s ∧ Value.string s = u := by simpa using hu
      have HS := Lib.hid hs'
      have sb := ND.out s (List.mem_of_getElem? hs')
      clear hu hs'
      go_wp2_with fail
      all_goals try (go_ret; exact ⟨false, rfl, rfl, fun h => by cases h⟩)
      go_round
      case rel => exact ⟨k + 1, _, by omega, by go_num, rfl, by omega, by omega, AB.out.next HS.out (by unfold big20; omega)⟩
      case measure => simp [intOf]; omega
    · obtain rfl : k = m := by omega
      have hl : ns.length = k := by have := hD.1; simpa using this
      have Q1 := Lib.hid (show n ≤ big20 ∧ k ≤ big20 ∧ ∀ s ∈ ns, s.size ≤ big20 from ⟨by unfold big20; omega, by unfold big20; omega, AB.out.all (by omega)⟩)
      clear AB hl
      go_wp2_with fail
      all_goals try (go_ret; exact ⟨false, rfl, rfl, fun h => by cases h⟩)
      go_loop [13, 15] (fun z i => ∃ (j : Nat) (t : Int), j ≤ m' ∧ i = .int .i64 j ∧ z = .int .i64 t ∧ 0 ≤ t ∧ t ≤ 1048576 ∧ Hid (AllB ms j)) (fun _ i => m' - (intOf i).toNat)
      case atStart => exact ⟨0, _, by omega, rfl, rfl, by omega, by omega, fun j s hj => by omega⟩
      case round =>
        obtain ⟨j, t', hj, rfl, rfl, t0', t1', AB⟩ := hrel
        by_cases hlt' : j < m'
        · obtain ⟨b, off, u, rfl, hb, hu, hx⟩ := hE.at_ hlt'
          obtain ⟨s, hs', rfl⟩ : ∃ s, ms[j]? = some s ∧ Value.string s = u := by simpa using hu
          have HS := Lib.hid hs'
          have sb := NE.out s (List.mem_of_getElem? hs')
          clear hu hs'
          go_wp2_with fail
          all_goals try (go_ret; exact ⟨false, rfl, rfl, fun h => by cases h⟩)
          go_round
          case rel => exact ⟨j + 1, _, by omega, by go_num, rfl, by omega, by omega, AB.out.next HS.out (by unfold big20; omega)⟩
          case measure => simp [intOf]; omega
        · obtain rfl : j = m' := by omega
          have hl : ms.length = j := by have := hE.1; simpa using this
          have Q2 := Lib.hid (show n' ≤ big20 ∧ j ≤ big20 ∧ ∀ s ∈ ms, s.size ≤ big20 from ⟨by unfold big20; omega, by unfold big20; omega, AB.out.all (by omega)⟩)
          clear AB hl
          go_wp2_with fail
          go_ret
          exact ⟨true, rfl, rfl, fun _ => ⟨Q1.out.1, Q1.out.2.1, Q2.out.1, Q2.out.2.1, Q1.out.2.2, Q2.out.2.2⟩⟩

end Go.Proofs.Ytdjiekejkjgamaa
