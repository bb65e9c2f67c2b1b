/-
  What a generated name is, in plain words on lists of numbers; no program.
-/
import Derived.Test.YtebnieiolhobmaaDoorRows
import Derived.WalkKit
import Derived.ProofKit
import Derived.OpenShut
import Derived.Laws.RangeAny
namespace Go.Proofs.YtebnieiolhobmaaDoor
open Go.ChangeShapes Go.WideShapes Go.ChangeAt Go.RowKit

set_option linter.unusedVariables false

def isLet (c : Nat) : Prop := (97 ≤ c ∧ c ≤ 122) ∨ (65 ≤ c ∧ c ≤ 90)
def isDig (c : Nat) : Prop := 48 ≤ c ∧ c ≤ 57
/-- The bytes so far, written from the bytes s. -/
structure Nm (s bs : List Nat) : Prop where
  chars : ∀ c ∈ bs, isLet c ∨ isDig c ∨ c = 95
  head : ∀ c, bs[0]? = some c → isLet c
  last : ∀ c, bs[bs.length - 1]? = some c → c ≠ 95
  dbl : ∀ i, bs[i]? = some 95 → bs[i + 1]? ≠ some 95
  sub : (bs.filter fun c => c ≠ 95).Sublist s
theorem Nm.nil : Nm [] [] := ⟨by simp, by simp, by simp, by simp, by simp⟩
theorem Nm.more {s bs : List Nat} (h : Nm s bs) (t : List Nat) : Nm (s ++ t) bs := ⟨h.chars, h.head, h.last, h.dbl, h.sub.trans (List.sublist_append_left s t)⟩
theorem let_ne {c : Nat} (h : isLet c ∨ isDig c) : c ≠ 95 := by unfold isLet isDig at h; omega
theorem get_snoc {bs : List Nat} {x c : Nat} {i : Nat} (h : (bs ++ [x])[i]? = some c) : (i < bs.length ∧ bs[i]? = some c) ∨ (i = bs.length ∧ c = x) := by
  by_cases hi : i < bs.length
  · rw [List.getElem?_append_left hi] at h; exact .inl ⟨hi, h⟩
  · rw [List.getElem?_append_right (by omega)] at h
    have e : i - bs.length = 0 := by
      rcases Nat.eq_zero_or_pos (i - bs.length) with e | e
      · exact e
      · rw [List.getElem?_eq_none (by simp; omega)] at h; cases h
    rw [e] at h
    simp at h
    exact .inr ⟨by omega, h.symm⟩
theorem Nm.push {s bs : List Nat} (h : Nm s bs) {c : Nat} (hc : isLet c ∨ (0 < bs.length ∧ isDig c)) : Nm (s ++ [c]) (bs ++ [c]) := by
  have h95 : c ≠ 95 := let_ne (by rcases hc with h | h; exact .inl h; exact .inr h.2)
  refine ⟨?_, ?_, ?_, ?_, ?_⟩
  · intro x hx
    rcases List.mem_append.1 hx with h1 | h1
    · exact h.chars x h1
    · have : x = c := by simpa using h1
      subst this
      rcases hc with h2 | h2
      · exact .inl h2
      · exact .inr (.inl h2.2)
  · intro x hx
    rcases get_snoc hx with ⟨_, h1⟩ | ⟨h1, rfl⟩
    · exact h.head x h1
    · rcases hc with h2 | h2
      · exact h2
      · omega
  · intro x hx
    rcases get_snoc hx with ⟨h1, h2⟩ | ⟨h1, rfl⟩
    · simp at h1
    · exact h95
  · intro i hi hi2
    rcases get_snoc hi2 with ⟨h1, h2⟩ | ⟨h1, h2⟩
    · rcases get_snoc hi with ⟨h3, h4⟩ | ⟨h3, h4⟩
      · exact h.dbl i h4 h2
      · omega
    · exact h95 h2.symm
  · rw [List.filter_append]
    have e : [c].filter (fun c => c ≠ 95) = [c] := by simp [h95]
    rw [e]
    exact List.Sublist.append h.sub (List.Sublist.refl _)
theorem Nm.gap {s bs : List Nat} (h : Nm s bs) (h0 : 0 < bs.length) {c : Nat} (hc : isLet c ∨ isDig c) : Nm (s ++ [c]) (bs ++ [95] ++ [c]) := by
  have h95 : c ≠ 95 := let_ne hc
  refine ⟨?_, ?_, ?_, ?_, ?_⟩
  · intro x hx
    rcases List.mem_append.1 hx with h1 | h1
    · rcases List.mem_append.1 h1 with h2 | h2
      · exact h.chars x h2
      · exact .inr (.inr (by simpa using h2))
    · have : x = c := by simpa using h1
      subst this
      rcases hc with h2 | h2
      · exact .inl h2
      · exact .inr (.inl h2)
  · intro x hx
    rcases get_snoc hx with ⟨_, h1⟩ | ⟨h1, _⟩
    · rcases get_snoc h1 with ⟨_, h2⟩ | ⟨h2, _⟩
      · exact h.head x h2
      · omega
    · simp at h1
  · intro x hx
    rcases get_snoc hx with ⟨h1, h2⟩ | ⟨h1, rfl⟩
    · simp at h1
    · exact h95
  · intro i hi hi2
    rcases get_snoc hi2 with ⟨h1, h2⟩ | ⟨h1, h2⟩
    · rcases get_snoc hi with ⟨h3, h4⟩ | ⟨h3, h4⟩
      · rcases get_snoc h2 with ⟨h5, h6⟩ | ⟨h5, h6⟩
        · rcases get_snoc h4 with ⟨h7, h8⟩ | ⟨h7, h8⟩
          · exact h.dbl i h8 h6
          · omega
        · rcases get_snoc h4 with ⟨h7, h8⟩ | ⟨h7, h8⟩
          · exact h.last 95 (by rw [show bs.length - 1 = i by omega]; exact h8) rfl
          · omega
      · omega
    · exact h95 h2.symm
  · rw [List.filter_append, List.filter_append]
    have e : [c].filter (fun c => c ≠ 95) = [c] := by simp [h95]
    have e2 : [95].filter (fun c : Nat => c ≠ 95) = [] := by simp
    rw [e, e2, List.append_nil]
    exact List.Sublist.append h.sub (List.Sublist.refl _)
/-- What the second loop walks: the name's bytes from i on, in the path's bytes from j on. -/
def Left (p n : List Nat) (i j : Nat) : Prop := ((n.drop i).filter fun c => c ≠ 95).Sublist (p.drop j)
theorem Left.skip {p n : List Nat} {i j : Nat} (h : Left p n i j) (hi : n[i]? = some 95) : Left p n (i + 1) j := by
  unfold Left at *
  have hlt : i < n.length := (List.getElem?_eq_some_iff.1 hi).1
  have hv : n[i] = 95 := (List.getElem?_eq_some_iff.1 hi).2
  rw [List.drop_eq_getElem_cons hlt, hv] at h
  simpa using h
theorem Left.at_ {p n : List Nat} {i j c : Nat} (h : Left p n i j) (hi : n[i]? = some c) (hc : c ≠ 95) : j < p.length := by
  unfold Left at h
  have hlt : i < n.length := (List.getElem?_eq_some_iff.1 hi).1
  have hv : n[i] = c := (List.getElem?_eq_some_iff.1 hi).2
  rw [List.drop_eq_getElem_cons hlt, hv, List.filter_cons_of_pos (by simp [hc])] at h
  have := h.length_le
  simp at this
  omega
theorem Left.pass {p n : List Nat} {i j c x : Nat} (h : Left p n i j) (hi : n[i]? = some c) (hc : c ≠ 95) (hj : p[j]? = some x) (hx : x ≠ c) : Left p n i (j + 1) := by
  unfold Left at *
  have hlt : i < n.length := (List.getElem?_eq_some_iff.1 hi).1
  have hv : n[i] = c := (List.getElem?_eq_some_iff.1 hi).2
  have hlt2 : j < p.length := (List.getElem?_eq_some_iff.1 hj).1
  have hv2 : p[j] = x := (List.getElem?_eq_some_iff.1 hj).2
  rw [List.drop_eq_getElem_cons hlt, hv, List.filter_cons_of_pos (by simp [hc])] at h ⊢
  rw [List.drop_eq_getElem_cons hlt2, hv2] at h
  cases h with
  | cons _ h => exact h
  | cons_cons _ h => exact absurd rfl hx
theorem Left.meet {p n : List Nat} {i j c : Nat} (h : Left p n i j) (hi : n[i]? = some c) (hc : c ≠ 95) (hj : p[j]? = some c) : Left p n (i + 1) (j + 1) := by
  unfold Left at *
  have hlt : i < n.length := (List.getElem?_eq_some_iff.1 hi).1
  have hv : n[i] = c := (List.getElem?_eq_some_iff.1 hi).2
  have hlt2 : j < p.length := (List.getElem?_eq_some_iff.1 hj).1
  have hv2 : p[j] = c := (List.getElem?_eq_some_iff.1 hj).2
  rw [List.drop_eq_getElem_cons hlt, hv, List.filter_cons_of_pos (by simp [hc]), List.drop_eq_getElem_cons hlt2, hv2] at h
  exact List.Sublist.of_cons_cons h
/-- A string's bytes as numbers. -/
def bytesN (s : ByteArray) : List Nat := s.data.toList.map UInt8.toNat
theorem bytesN_len (s : ByteArray) : (bytesN s).length = s.size := by simp [bytesN]
theorem bytesN_get (s : ByteArray) (i : Nat) (h : i < s.size) : (bytesN s)[i]? = some (s[i]'h).toNat := by
  have h2 : i < s.data.size := h
  unfold bytesN
  rw [List.getElem?_map, Array.getElem?_toList, Array.getElem?_eq_getElem h2]; rfl

end Go.Proofs.YtebnieiolhobmaaDoor
