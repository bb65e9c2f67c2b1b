/-
  Lemmas shared by several laws of this seat; no statement of their own.
-/
import Derived.Test.YtdjiekejkjgamaaRows
import Derived.WalkKit
import Derived.ProofKit
import Derived.OpenShut
import Derived.Test.YtdjiekejkjgamaaSlW
import Derived.Test.YtdjiekejkjgamaaAcT
import Derived.WalkLawsBesides
import Derived.WalkSpells
import Derived.Below
import Derived.Lib.Hide
import Derived.Outline
import Derived.LoopTactic
namespace Go.Proofs.Ytdjiekejkjgamaa
open Go.ChangeShapes Go.WideShapes Go.ChangeAt Go.RowKit

set_option linter.unusedVariables false

def Tot (w : World) (e : Ending) (w' : World) : Prop := ∃ t : Int, e = .returned (.int .i64 t) ∧ 0 ≤ t ∧ t ≤ 100000000 ∧ w = w'
set_option maxRecDepth 100000 in
set_option maxHeartbeats 1000000 in
theorem tot_any (A D : Option Addr) (n m c1 c2 : Nat) (ns : List ByteArray) (w : World) (hD : Sl w w.heap.size D m (ns.map Value.string)) (hns : ∀ s ∈ ns, s.size ≤ big20) (b1 : n ≤ 1048576) (b2 : m ≤ 1048576) :
    Calls Try.prog 5 #[.slice A n c1, .slice D m c2] w (Tot w) := by
  have ND := Lib.hid hns
  clear hns
  go_enter Try.func5, Try.ntmps5
  go_wp2_with fail
  go_loop [5, 6] (fun z i => ∃ (k : Nat) (t : Int), k ≤ m ∧ i = .int .i64 k ∧ z = .int .i64 t ∧ 0 ≤ t ∧ t ≤ 20000000) (fun _ i => m - (intOf i).toNat)
  case atStart => exact ⟨0, _, by omega, rfl, rfl, by omega, by omega⟩
  case round =>
    obtain ⟨k, t, hk, rfl, rfl, t0, t1⟩ := hrel
    by_cases hlt : k < m
    · obtain ⟨b, off, u, rfl, hb, hu, hx⟩ := hD.at_ hlt
      obtain ⟨s, hs', rfl⟩ : ∃ s, ns[k]? = some s ∧ Value.string s = u := by simpa using hu
      have sb : s.size ≤ 1048576 := big20_le (ND.out s (List.mem_of_getElem? hs'))
      clear hu hs'
      go_wp2_with fail
      · go_ret
        exact ⟨_, rfl, by omega, by omega, rfl⟩
      · go_round
        case rel => exact ⟨k + 1, _, by omega, by go_num, rfl, by omega, by omega⟩
        case measure => simp [intOf]; omega
    · go_wp2_with fail
      go_ret
      exact ⟨_, rfl, by omega, by omega, rfl⟩

end Go.Proofs.Ytdjiekejkjgamaa
