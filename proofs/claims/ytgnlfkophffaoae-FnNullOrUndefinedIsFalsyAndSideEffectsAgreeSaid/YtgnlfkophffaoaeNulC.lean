/-
  Lemmas shared by several laws of this seat; no statement of their own.
-/
import Derived.Test.YtgnlfkophffaoaeRows
import Derived.WalkKit
import Derived.ProofKit
import Derived.OpenShut
import Derived.Test.YtgnlfkophffaoaeSlW
import Derived.Test.YtgnlfkophffaoaeNul
import Derived.Test.YtgnlfkophffaoaeNulO
import Derived.WalkLawsBesides
import Derived.WalkSpells
import Derived.Below
import Derived.Lib.Hide
import Derived.Outline
import Derived.Deep.Cut
import Derived.Deep.CutBlock
import Derived.Deep.DeepCutAuto
import Derived.LoopTactic
namespace Go.Proofs.Ytgnlfkophffaoae
open Go.ChangeShapes Go.WideShapes Go.ChangeAt Go.RowKit

set_option linter.unusedVariables false

def Leaf (w : World) (c : Value) (wx : World) : Prop := ∃ T v, c = .iface T v ∧ Both wx (.iface T v) ∧ Below w.heap.size w wx
theorem sl_now {w w' : World} {A : Option Addr} {n : Nat} {zs : List Value} (h : Sl w w.heap.size A n zs) (hb : Below w.heap.size w w') : Sl w' w'.heap.size A n zs := (h.below hb).more hb.size
def Chained (w : World) (e : Ending) (w' : World) : Prop := ∃ T v, e = .returned (.iface T v) ∧ Both w' (.iface T v) ∧ Below w.heap.size w w'
set_option maxRecDepth 100000 in
set_option maxHeartbeats 2000000 in
theorem chain_any (leaf op : Int) (ti : Bool) (A : Option Addr) (n c : Nat) (cs : List Int) (w : World) (l0 : 0 ≤ leaf) (l1 : leaf ≤ 255) (o0 : 0 ≤ op) (hl : leaf % 15 ≠ 8) (hcs : ∀ x ∈ cs, 0 ≤ x ∧ x ≤ 255) (hn : n ≤ 9223372036854775807) (hs : Sl w w.heap.size A n (cs.map (Value.int .u8))) :
    Calls Try.prog 6 #[.int .u8 leaf, .int .u8 op, .bool ti, .slice A n c] w (Chained w) := by
  have O := Lib.hid hcs
  have S := Lib.hid hs
  clear hcs hs
  go_enter Try.func6, Try.ntmps6
  go_upto_block 0 with fail
  go_cut [9] (fun c wx => Leaf w c wx)
  case first =>
    have hc : leaf % 15 = 0 ∨ leaf % 15 = 1 ∨ leaf % 15 = 2 ∨ leaf % 15 = 3 ∨ leaf % 15 = 4 ∨ leaf % 15 = 5 ∨ leaf % 15 = 6 ∨ leaf % 15 = 7 ∨ leaf % 15 = 9 ∨ leaf % 15 = 10 ∨ leaf % 15 = 11 ∨ leaf % 15 = 12 ∨ leaf % 15 = 13 ∨ leaf % 15 = 14 := by omega
    generalize leaf % 15 = k at *
    clear hl
    rcases hc with rfl | rfl | rfl | rfl | rfl | rfl | rfl | rfl | rfl | rfl | rfl | rfl | rfl | rfl
    · go_wp2_with fail
      go_meet
      case rel =>
        refine ⟨_, _, rfl, both_ENull _ _, ?_⟩
        repeat (with_reducible first | exact Below.refl _ _ | refine Below.alloc ?_ (by simp <;> omega) _)
    · go_wp2_with fail
      go_meet
      case rel =>
        refine ⟨_, _, rfl, both_EUndefined _ _, ?_⟩
        repeat (with_reducible first | exact Below.refl _ _ | refine Below.alloc ?_ (by simp <;> omega) _)
    · go_wp2_with fail
      go_meet
      case rel =>
        refine ⟨_, _, rfl, both_EBoolean _ _ (by simp) (by simp [go_sem]), ?_⟩
        repeat (with_reducible first | exact Below.refl _ _ | refine Below.alloc ?_ (by simp <;> omega) _)
    · go_wp2_with fail
      go_meet
      case rel =>
        refine ⟨_, _, rfl, both_ENumber _ _ (by simp) (by simp [go_sem]), ?_⟩
        repeat (with_reducible first | exact Below.refl _ _ | refine Below.alloc ?_ (by simp <;> omega) _)
    · go_wp2_with fail
      go_meet
      case rel =>
        refine ⟨_, _, rfl, both_EString _ _ (by simp) (by simp [go_sem]), ?_⟩
        repeat (with_reducible first | exact Below.refl _ _ | refine Below.alloc ?_ (by simp <;> omega) _)
    · go_wp2_with fail
      go_meet
      case rel =>
        refine ⟨_, _, rfl, both_ERegExp _ _, ?_⟩
        repeat (with_reducible first | exact Below.refl _ _ | refine Below.alloc ?_ (by simp <;> omega) _)
    · go_wp2_with fail
      go_meet
      case rel =>
        refine ⟨_, _, rfl, both_EFunction _ _, ?_⟩
        repeat (with_reducible first | exact Below.refl _ _ | refine Below.alloc ?_ (by simp <;> omega) _)
    · go_wp2_with fail
      go_meet
      case rel =>
        refine ⟨_, _, rfl, both_EArrow _ _, ?_⟩
        repeat (with_reducible first | exact Below.refl _ _ | refine Below.alloc ?_ (by simp <;> omega) _)
    · go_wp2_with fail
      go_meet
      case rel =>
        refine ⟨_, _, rfl, both_EObject _ _, ?_⟩
        repeat (with_reducible first | exact Below.refl _ _ | refine Below.alloc ?_ (by simp <;> omega) _)
    · go_wp2_with fail
      go_meet
      case rel =>
        refine ⟨_, _, rfl, both_EArray _ _, ?_⟩
        repeat (with_reducible first | exact Below.refl _ _ | refine Below.alloc ?_ (by simp <;> omega) _)
    · go_wp2_with fail
      go_meet
      case rel =>
        refine ⟨_, _, rfl, both_EClass _ _, ?_⟩
        repeat (with_reducible first | exact Below.refl _ _ | refine Below.alloc ?_ (by simp <;> omega) _)
    · go_wp2_with fail
      go_meet
      case rel =>
        refine ⟨_, _, rfl, both_EIdentifier _ _, ?_⟩
        repeat (with_reducible first | exact Below.refl _ _ | refine Below.alloc ?_ (by simp <;> omega) _)
    · go_wp2_with fail
      go_meet
      case rel =>
        refine ⟨_, _, rfl, both_EUnary op ti _ (.pointer (some ⟨w.heap.size, 0, none⟩)) _ o0 (by simp) (by simp [go_sem]) (by simp [go_sem]) (by simp [go_sem]), ?_⟩
        repeat (with_reducible first | exact Below.refl _ _ | refine Below.alloc ?_ (by simp <;> omega) _)
    · go_wp2_with fail
      go_meet
      case rel =>
        refine ⟨_, _, rfl, both_EBinary op _ (.pointer (some ⟨w.heap.size + 1, 0, none⟩)) _ (by simp) (by simp [go_sem]) (by simp [go_sem]), ?_⟩
        repeat (with_reducible first | exact Below.refl _ _ | refine Below.alloc ?_ (by simp <;> omega) _)
  case rest =>
    obtain ⟨T0, v0, rfl, hB, hb0⟩ := hcut
    have KB := Lib.hid hB
    have KL := Lib.hid hb0
    clear hB hb0 hl l0 l1
    go_wp2_with fail
    go_loopw [9, 10] (fun c i wr => ∃ (k : Nat) (T : TypeId) (v : Value), k ≤ n ∧ i = .int .i64 ((k : Int) - 1) ∧ c = .iface T v ∧ Hid (Both wr (.iface T v) ∧ Below w.heap.size w wr)) (fun _ i _ => (intOf i + 1).toNat)
    case atStart => exact ⟨n, T0, v0, Nat.le_refl _, rfl, rfl, ⟨KB.out, KL.out⟩⟩
    case round =>
      obtain ⟨k, T, v, hk, rfl, rfl, R⟩ := hrel
      by_cases hz : k = 0
      · subst hz
        go_wp2_with fail
        go_ret
        exact ⟨T, v, rfl, R.out.1, R.out.2⟩
      · have s1 := sl_now S.out R.out.2
        obtain ⟨b, off, u, hA, hbb, hu, hx⟩ := s1.at_ (k := k - 1) (by omega)
        obtain ⟨x, hx', rfl⟩ : ∃ x, cs[k - 1]? = some x ∧ Value.int .u8 x = u := by simpa using hu
        obtain ⟨x0, x1⟩ := O.out x (List.mem_of_getElem? hx')
        subst hA
        obtain ⟨j, rfl⟩ : ∃ j, k = j + 1 := ⟨k - 1, by omega⟩
        have e1 : ((j + 1 : Nat) : Int) - 1 = (j : Int) := by omega
        rw [e1]
        simp only [Nat.add_sub_cancel] at hx
        clear hu hx' s1 hz e1
        have hc : x % 4 = 0 ∨ x % 4 = 1 ∨ x % 4 = 2 ∨ x % 4 = 3 := by omega
        rcases hc with hc | hc | hc | hc
        · go_wp2_with fail
          have hsz := R.out.2.size
          refine ⟨⟨j, _, _, by omega, rfl, rfl, ⟨both_enum wr.heap.size (.iface T v) _ (by simp) (by simp [go_sem]) (R.out.1.later ((Below.refl _ _).alloc (Nat.le_refl _) _)), ?_⟩⟩, by simp [intOf]⟩
          exact R.out.2.alloc hsz _
        · go_wp2_with fail
          have hsz := R.out.2.size
          refine ⟨⟨j, _, _, by omega, rfl, rfl, ⟨both_ann0 wr.heap.size (.iface T v) _ (by simp) (by simp [go_sem]) (by simp [go_sem]) (R.out.1.later ((Below.refl _ _).alloc (Nat.le_refl _) _)), ?_⟩⟩, by simp [intOf]⟩
          exact R.out.2.alloc hsz _
        · go_wp2_with fail
          have hsz := R.out.2.size
          refine ⟨⟨j, _, _, by omega, rfl, rfl, ⟨both_ann1 wr.heap.size (.iface T v) _ (by simp) (by simp [go_sem]) (by simp [go_sem]) (R.out.1.later ((Below.refl _ _).alloc (Nat.le_refl _) _)), ?_⟩⟩, by simp [intOf]⟩
          exact R.out.2.alloc hsz _
        · go_wp2_with fail
          have hsz := R.out.2.size
          refine ⟨⟨j, _, _, by omega, rfl, rfl, ⟨both_comma (wr.heap.size + 1) (.iface T v) _ (by simp) (by simp [go_sem]) (by simp [go_sem]) (R.out.1.later (((Below.refl _ _).alloc (Nat.le_refl _) _).alloc (by simp) _)), ?_⟩⟩, by simp [intOf]⟩
          exact (R.out.2.alloc hsz _).alloc (by simp <;> omega) _

end Go.Proofs.Ytgnlfkophffaoae
