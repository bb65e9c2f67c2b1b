/-
  Copies of rows, and the loop that appends one row to another; no statement of its own.
-/
import Derived.Test.YtlmjnlijoodbiaaDoorRows
import Derived.WalkKit
import Derived.ProofKit
import Derived.OpenShut
import Derived.Test.YtlmjnlijoodbiaaDoorSlW
import Derived.Test.YtlmjnlijoodbiaaDoorIpC
import Derived.Test.YtlmjnlijoodbiaaDoorIpE
import Derived.Test.YtlmjnlijoodbiaaDoorIpA
import Derived.WalkLawsBesides
import Derived.WalkSpells
import Derived.Below
import Derived.Lib.Hide
import Derived.Outline
import Derived.OwnWalk
import Derived.LoopTactic
import Derived.RegionTactic
import Derived.Deep.QuietTactic
import Derived.BigQuiet
namespace Go.Proofs.YtlmjnlijoodbiaaDoor
open Go.ChangeShapes Go.WideShapes Go.ChangeAt Go.RowKit

set_option linter.unusedVariables false

theorem Ap.alloc {w : World} {B : Nat} {v : Value} {us : List Int} (h : Ap w B v us) (o : Obj) : Ap (w.alloc o) B v us := by
  rcases h with ⟨g, h1, h2⟩ | h
  · exact .inl ⟨g, h1, h2.alloc o⟩
  · exact .inr (h.alloc o)
/-- A row that fills its block to the end, or nil. -/
def Ex (w : World) (B : Nat) (v : Value) (us : List Int) : Prop := (v = .slice none 0 0 ∧ us = []) ∨ ∃ g, v = .slice (some ⟨g, 0, none⟩) us.length us.length ∧ Bk w g 49 (u16c us).toArray ∧ g < B
theorem Ex.row {w : World} {B : Nat} {v : Value} {us : List Int} (h : Ex w B v us) : Row w B v us := by
  rcases h with h | ⟨g, h1, h2, h3⟩
  · exact .inl h
  · exact .inr ⟨g, _, _, h1, h2, h3, by rw [List.take_of_length_le (by rw [u16c_len]; exact Nat.le_refl _)]⟩
theorem Ex.ap {w : World} {B : Nat} {v : Value} {us : List Int} (h : Ex w B v us) (B' : Nat) : Ap w B' v us := by
  rcases h with ⟨rfl, rfl⟩ | ⟨g, h1, h2, _⟩
  · exact .inr (World.ownsRow_nil _ _ _ _)
  · exact .inl ⟨g, h1, h2⟩
theorem Ex.below {w w' : World} {B : Nat} {v : Value} {us : List Int} (h : Ex w B v us) (hb : Below B w w') : Ex w' B v us := by
  rcases h with h | ⟨g, h1, h2, h3⟩
  · exact .inl h
  · exact .inr ⟨g, h1, h2.below hb h3, h3⟩
theorem Ex.more {w : World} {B B' : Nat} {v : Value} {us : List Int} (h : Ex w B v us) (hB : B ≤ B') : Ex w B' v us := by
  rcases h with h | ⟨g, h1, h2, h3⟩
  · exact .inl h
  · exact .inr ⟨g, h1, h2, by omega⟩
theorem clone_row (A : Option Addr) (n c : Nat) (us : List Int) (w : World) (hs : Sl w w.heap.size A n (us.map (Value.int .u16))) (hn : n ≤ big20) (hnil : A = none → n = 0 ∧ c = 0) :
    Calls Tryd.prog 6 #[.slice A n c] w fun e w' => ∃ v, e = .returned v ∧ Ex w' w'.heap.size v us ∧ Below w.heap.size w w' := by
  refine (clone_u16 A n c us w hs hn hnil).mono fun e w' he => ?_
  have hl : us.length = n := by have := hs.1; simpa using this
  rcases he with ⟨h1, h2, rfl⟩ | ⟨_, h2, rfl⟩
  · have h0 := (hnil h1).1
    exact ⟨_, h2, .inl ⟨rfl, List.length_eq_zero_iff.1 (by omega)⟩, Below.refl _ _⟩
  · subst hl
    exact ⟨_, h2, .inr ⟨w.heap.size, rfl, Bk.new _ _ _, by simp⟩, (Below.refl _ _).alloc (Nat.le_refl _) _⟩
set_option maxRecDepth 100000 in
set_option maxHeartbeats 1000000 in
theorem append_all (B : Nat) (a : Option Addr) (n c : Nat) (us : List Int) (A : Option Addr) (m d : Nat) (ys : List Int) (w : World) (hv : Ap w B (.slice a n c) us) (hs : Sl w B A m (ys.map (Value.int .u16))) (hB : B ≤ w.heap.size) (hlen : us.length + ys.length ≤ 2097152) :
    Calls Tryd.prog 7 #[.slice a n c, .slice A m d] w fun e w' => ∃ v, e = .returned v ∧ Ap w' B v (us ++ ys) ∧ Below B w w' := by
  have hl : ys.length = m := by have := hs.1; simpa using this
  have HS := Lib.hid hs
  have HV := Lib.hid hv
  have HL := Lib.hid hlen
  have hmb : m ≤ 2097152 := by omega
  clear hs hv hlen
  go_enter Tryd.func7, Tryd.ntmps7
  go_wp2_with fail
  go_loopw [0, 5] (fun o i wr => ∃ (k : Nat) (a' : Option Addr) (c' n' : Nat), k ≤ m ∧ i = .int .i64 k ∧ o = .slice a' n' c' ∧ Hid (Ap wr B (.slice a' n' c') (us ++ ys.take k) ∧ Below B w wr)) (fun _ i _ => m - (intOf i).toNat)
  case atStart => exact ⟨0, a, c, n, by omega, rfl, rfl, by rw [List.take_zero, List.append_nil]; exact HV.out, Below.refl _ _⟩
  case round =>
    obtain ⟨k, a', c', n', hk, rfl, rfl, H⟩ := hrel
    by_cases hlt : k < m
    · obtain ⟨b, off, u, rfl, hb, hu, hc⟩ := (HS.out.below H.out.2).at_ hlt
      obtain ⟨x, hx, rfl⟩ : ∃ x, ys[k]? = some x ∧ Value.int .u16 x = u := by simpa using hu
      have HX := Lib.hid hx
      have zz := H.out.2.size
      have hbr : b < wr.heap.size := by omega
      have l0 : (0 : Int) ≤ (k : Int) := by omega
      have l1 : (k : Int) < (m : Int) := by omega
      have HA := Lib.hid (H.out.1.alloc (.cells #[.int .u16 x] 49))
      have HR : Hid (Row (wr.alloc (.cells #[.int .u16 x] 49)) (wr.heap.size + 1) (.slice (some ⟨wr.heap.size, 0, none⟩) 1 1) [x]) := Lib.hid (.inr ⟨wr.heap.size, 1, _, rfl, Bk.new _ _ _, by omega, rfl⟩)
      have hll : (us ++ ys.take k).length + [x].length ≤ 2097152 := by have := HL.out; simp; omega
      have HLL := Lib.hid hll
      clear hu hx hll
      go_wp2_with (at_builtin; refine wpList_append_ap rfl _ _ rfl B _ _ _ (us ++ ys.take k) [x] rfl HA.out rfl HR.out HLL.out (by simp; omega) ?_)
      intro v' w' hap hbl _
      obtain ⟨a2, c2, rfl⟩ := hap.form
      have AP := Lib.hid hap
      have BL := Lib.hid (((H.out.2.alloc (by omega) _).trans hbl))
      clear hap hbl
      go_wp2_with fail
      have e1 : us ++ ys.take (k + 1) = us ++ ys.take k ++ [x] := by rw [List.take_add_one, HX.out]; simp
      have E1 := Lib.hid e1
      clear e1
      go_roundw
      case rel => exact ⟨k + 1, a2, c2, _, by omega, by go_num, rfl, by rw [E1.out, List.append_assoc]; exact AP.out, BL.out⟩
      case measure => simp [intOf]; omega
    · obtain rfl : k = m := by omega
      go_wp2_with fail
      go_ret
      exact ⟨_, rfl, by have h1 := H.out.1; rw [← hl, List.take_length] at h1; exact h1, H.out.2⟩

end Go.Proofs.YtlmjnlijoodbiaaDoor
