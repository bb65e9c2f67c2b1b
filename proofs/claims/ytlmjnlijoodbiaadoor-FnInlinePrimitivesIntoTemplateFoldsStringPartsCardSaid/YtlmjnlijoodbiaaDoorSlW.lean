/-
  Lemmas shared by several laws of this seat; no statement of their own.
-/
import Derived.Test.YtlmjnlijoodbiaaDoorRows
import Derived.WalkKit
import Derived.ProofKit
import Derived.OpenShut
import Derived.WalkLawsBesides
import Derived.WalkSpells
import Derived.Below
import Derived.Lib.Hide
import Derived.Laws.MakeOwn
import Derived.LoopTactic
namespace Go.Proofs.YtlmjnlijoodbiaaDoor
open Go.ChangeShapes Go.WideShapes Go.ChangeAt Go.RowKit

set_option linter.unusedVariables false

theorem ret_true {b : Bool} (h : b = true) : Ending.returned (.bool b) = .returned (.bool true) := by rw [h]
theorem ret_bool {a b : Bool} (h : a = b) : Ending.returned (.bool a) = .returned (.bool b) := by rw [h]
theorem ret_int {k : IntKind} {a b : Int} (h : a = b) : Ending.returned (.int k a) = .returned (.int k b) := by rw [h]
theorem bcell {W w1 : World} (hb : Below W.heap.size W w1) : (∀ b o, b < W.heap.size → w1.cell? ⟨b, o, none⟩ = W.cell? ⟨b, o, none⟩) ∧ (∀ b o, b < W.heap.size → w1.frozen? ⟨b, o, none⟩ = W.frozen? ⟨b, o, none⟩) :=
  ⟨fun b o h => hb.cell (p := ⟨b, o, none⟩) h, fun b o h => hb.frozen (p := ⟨b, o, none⟩) h⟩
theorem info_three {P : Program} {e : TypeId} {z : Value} {s b : Nat} (h : (P.info? e).map (fun i => (i.zero, i.size, i.bytes)) = some (some z, s, b)) : ∃ i, P.info? e = some i ∧ i.zero = some z ∧ i.size = s ∧ i.bytes = b := by
  cases hi : P.info? e with
  | none => rw [hi] at h; cases h
  | some i => rw [hi] at h; simp at h; exact ⟨i, rfl, h.1, h.2.1, h.2.2⟩
theorem eql_nil {P : Program} (w : World) (t e : TypeId) (a : Option Addr) (l c : Nat) (h : P.underlying t = some (.slice e)) : (binOp .eql t (.slice a l c) (.slice none 0 0)).run P w = .ok (.bool a.isNone) w := by
  simp [binOp, run_equal_slice_nil w t e a l c h]
def big20 : Nat := 1048576
theorem big20_le {n : Nat} (h : n ≤ big20) : n ≤ 1048576 := h
theorem addr_add_block (a : Addr) (n : Nat) : (a.add n).block = a.block := by unfold Addr.add; split <;> rfl
/-- The slice value with address A and length n holds the cells zs in w, in a block below B. -/
def Sl (w : World) (B : Nat) (A : Option Addr) (n : Nat) (zs : List Value) : Prop :=
  zs.length = n ∧ (0 < n → ∃ b off, A = some ⟨b, off, none⟩ ∧ b < B ∧ ∀ j u, zs[j]? = some u → w.cell? ⟨b, off + j, none⟩ = some u)
theorem Sl.keep {w w' : World} {B : Nat} {A : Option Addr} {n : Nat} {zs : List Value} (h : Sl w B A n zs) (hk : ∀ b o, b < B → w'.cell? ⟨b, o, none⟩ = w.cell? ⟨b, o, none⟩) : Sl w' B A n zs :=
  ⟨h.1, fun hn => by obtain ⟨b, off, e, hb, hc⟩ := h.2 hn; exact ⟨b, off, e, hb, fun j u hu => (hk _ _ hb).trans (hc j u hu)⟩⟩
theorem Sl.below {w w' : World} {B : Nat} {A : Option Addr} {n : Nat} {zs : List Value} (h : Sl w B A n zs) (hb : Below B w w') : Sl w' B A n zs := h.keep fun b o hp => hb.cell (p := ⟨b, o, none⟩) hp
theorem Sl.more {w : World} {B B' : Nat} {A : Option Addr} {n : Nat} {zs : List Value} (h : Sl w B A n zs) (hB : B ≤ B') : Sl w B' A n zs :=
  ⟨h.1, fun hn => by obtain ⟨b, off, e, hb, hc⟩ := h.2 hn; exact ⟨b, off, e, by omega, hc⟩⟩
theorem Sl.empty {w : World} {B : Nat} {A : Option Addr} : Sl w B A 0 [] := ⟨rfl, fun h => absurd h (by omega)⟩
theorem Sl.at_ {w : World} {B : Nat} {A : Option Addr} {n k : Nat} {zs : List Value} (h : Sl w B A n zs) (hk : k < n) : ∃ b off u, A = some ⟨b, off, none⟩ ∧ b < B ∧ zs[k]? = some u ∧ w.cell? ⟨b, off + k, none⟩ = some u := by
  obtain ⟨b, off, e, hb, hc⟩ := h.2 (by omega)
  have hl : k < zs.length := by have := h.1; omega
  exact ⟨b, off, zs[k], e, hb, List.getElem?_eq_getElem hl, hc k _ (List.getElem?_eq_getElem hl)⟩
theorem Sl.new (w : World) (t : TypeId) (zs : List Value) (B : Nat) (hB : w.heap.size < B) : Sl (w.alloc (.cells zs.toArray t)) B (some ⟨w.heap.size, 0, none⟩) zs.length zs :=
  ⟨rfl, fun _ => ⟨_, _, rfl, hB, fun j u hu => by simp [hu]⟩⟩
def mid (z : Value) (zs : List Value) (n k : Nat) : Array Value := (zs.take k ++ List.replicate (n - k) z).toArray
theorem mid_zero (z : Value) (zs : List Value) (n : Nat) (hz : z.cells = #[z]) : madeCells z.cells n = mid z zs n 0 := by
  unfold madeCells mid
  rw [hz]
  apply Array.ext
  · simp
  · intro i h1 h2
    simp [Nat.mod_one]
theorem mid_end (z : Value) (zs : List Value) (n : Nat) (h : zs.length = n) : mid z zs n n = zs.toArray := by
  unfold mid; simp [← h]
theorem mid_set (z v : Value) (zs : List Value) (n k : Nat) (hl : zs.length = n) (hk : k < n) (hv : zs[k]? = some v) : (mid z zs n k).setIfInBounds k v = mid z zs n (k + 1) := by
  unfold mid
  simp only [List.setIfInBounds_toArray]
  congr 1
  apply List.ext_getElem?
  intro i
  rw [List.getElem?_set]
  have hlen : (zs.take k).length = k := by rw [List.length_take]; omega
  have hlen' : (zs.take (k + 1)).length = k + 1 := by rw [List.length_take]; omega
  by_cases h1 : k = i
  · subst h1
    simp only [if_true]
    rw [if_pos (by simp; omega), List.getElem?_append_left (by omega), List.getElem?_take, if_pos (by omega), hv]
  · rw [if_neg h1]
    by_cases h2 : i < k
    · rw [List.getElem?_append_left (by omega), List.getElem?_append_left (by omega), List.getElem?_take, List.getElem?_take, if_pos h2, if_pos (by omega)]
    · rw [List.getElem?_append_right (by omega), List.getElem?_append_right (by omega), hlen, hlen', List.getElem?_replicate, List.getElem?_replicate]
      by_cases h3 : i < n
      · rw [if_pos (by omega), if_pos (by omega)]
      · rw [if_neg (by omega), if_neg (by omega)]
theorem size_mid (z : Value) (zs : List Value) (n k : Nat) (hl : zs.length = n) (hk : k ≤ n) : (mid z zs n k).size = n := by unfold mid; simp; omega

theorem take_snoc' {α : Type} (l : List α) (k : Nat) (x : α) (h : l[k]? = some x) : l.take (k + 1) = l.take k ++ [x] := by
  rw [List.take_add_one, h]; rfl
theorem take_eq_of_len {α : Type} (l : List α) (k : Nat) (h : l.length ≤ k) : l.take k = l := List.take_of_length_le h

end Go.Proofs.YtlmjnlijoodbiaaDoor
