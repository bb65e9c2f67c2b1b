/-
  For every slice of bools the law FnJoinWithCommaFoldKeepsPresentInOrder returns true and leaves its argument as it was; no condition.
  The frame of this text was written by the kit's program proof-skeleton.mjs for this statement; the walk and its lemmas are the prover's.
-/
import Derived.Test.YtgnlfkophffaoadRows
import Derived.WalkKit
import Derived.ProofKit
import Derived.OpenShut
import Derived.Test.YtgnlfkophffaoadSlW
import Derived.Test.YtgnlfkophffaoadExtW
import Derived.Test.YtgnlfkophffaoadJwc
import Derived.Test.YtgnlfkophffaoadCl152
import Derived.Outline
import Derived.DataReads
import Derived.OwnWalk
import Derived.Laws.OwnMore
import Derived.Laws.MakeOwn
import Derived.Deep.Cut
import Derived.LaidEql
import Derived.Deep.QuietTactic
import Derived.BigQuiet
import Derived.LoopTactic
import Derived.ShutString
import Derived.ChangeOld
import Derived.Below
import Derived.WalkLawsBesides
import Derived.Deep.Slices
import Derived.Laws.Cover2
namespace Go.Proofs.Ytgnlfkophffaoad.fnJoinWithCommaFoldKeepsPresentInOrder
open Go.ChangeShapes Go.WideShapes Go.ChangeAt Go.RowKit
open Go.ChangeMaps (open_string shut_string)
open Go.Deep (open_slice1)
set_option linter.unusedVariables false

theorem own : ownKnob Try.prog.godebug = none := by kernel_rfl
theorem laidOut : laidOutB Try.prog = true := by kernel_rfl

def IsRow {α : Type} (φ : α → Value) (ok : α → Prop) (w : World) (a : Option Addr) (len cap : Nat) (zs : List α) : Prop :=
  (a = none ∧ len = 0 ∧ cap = 0 ∧ zs = []) ∨
  ∃ x, a = some x ∧ len ≤ cap ∧ cap ≤ maxLen ∧ zs.length = len ∧ (∀ i (h : i < zs.length), w.cell? (x.add i) = some (φ zs[i])) ∧ ∀ n ∈ zs, ok n

theorem isRow_of {α : Type} {H : Type} {enc : TypeId × Value → H} {P : Program} {w : World} {held : Bool} {t e : TypeId} {fuel : Nat} {a : Option Addr} {len cap : Nat} {y : DataW H × List MemPlace} (φ : α → Value) (ok : α → Prop) (d0 : α) (ht : P.underlying t = some (.slice e)) (hc : P.cellsOf e = 1)
    (h : DataW.trod enc P w 0 (fun _ => true) held fuel t (Value.slice a len cap).cells.toList = some y)
    (each : ∀ (n : Nat) (v : Value) (z : DataW H × List MemPlace), DataW.trod enc P w 0 (fun _ => true) held n e [v] = some z → ∃ u, v = φ u ∧ ok u) : ∃ zs, IsRow φ ok w a len cap zs := by
  rcases open_slice1 ht hc h with ⟨hcs, _⟩ | ⟨x, l, c, m, n, V, D, Pl, hcs, _, hl, hm, hmm, hy, hx⟩
  · simp [Value.cells] at hcs
    obtain ⟨rfl, rfl, rfl⟩ := hcs
    exact ⟨[], .inl ⟨rfl, rfl, rfl, rfl⟩⟩
  · simp [Value.cells] at hcs
    obtain ⟨rfl, rfl, rfl⟩ := hcs
    simp only [if_true] at hmm
    subst hmm
    have hex : ∀ i, ∃ u, i < len → V i = φ u ∧ ok u := by
      intro i
      by_cases hi : i < len
      · obtain ⟨u, h1, h2⟩ := each n (V i) _ (hx i (by omega)).2
        exact ⟨u, fun _ => ⟨h1, h2⟩⟩
      · exact ⟨d0, fun h => absurd h hi⟩
    refine ⟨(List.range len).map fun i => Classical.choose (hex i), .inr ⟨x, rfl, hl, hm, by simp, ?_, ?_⟩⟩
    · intro i hi
      simp at hi
      rw [(hx i (by omega)).1, (Classical.choose_spec (hex i) hi).1]
      simp
    · intro u hu
      simp at hu
      obtain ⟨i, hi, rfl⟩ := hu
      exact (Classical.choose_spec (hex i) hi).2

theorem block_lt {w : World} {a : Addr} {v : Value} (h : w.cell? a = some v) : a.block < w.heap.size := by
  rcases Nat.lt_or_ge a.block w.heap.size with hlt | hge
  · exact hlt
  · simp [World.cell?, Array.getElem?_eq_none hge] at h
theorem sl_of_row {α : Type} {φ : α → Value} {ok : α → Prop} {w : World} {a : Option Addr} {len cap : Nat} {zs : List α} (h : IsRow φ ok w a len cap zs) : Sl w w.heap.size a len (zs.map φ) ∧ (a = none → len = 0 ∧ cap = 0) := by
  rcases h with ⟨rfl, rfl, rfl, rfl⟩ | ⟨x, rfl, _, _, hl, hc, _⟩
  · exact ⟨Sl.empty, fun _ => ⟨rfl, rfl⟩⟩
  · refine ⟨⟨by simpa using hl, fun hn => ?_⟩, fun h => by cases h⟩
    have h0 := hc 0 (by omega)
    have hx : x.add 0 = x := by simp [Addr.add]
    rw [hx] at h0
    have hs := World.cell?_spot h0
    have hb := block_lt h0
    obtain ⟨b, off, sp⟩ := x
    simp at hs
    subst hs
    refine ⟨b, off, rfl, hb, fun j u hu => ?_⟩
    simp at hu
    obtain ⟨y, hy, rfl⟩ := hu
    have hj : j < zs.length := (List.getElem?_eq_some_iff.1 hy).1
    have := hc j hj
    rw [(List.getElem?_eq_some_iff.1 hy).2] at this
    rw [← this]
    unfold Addr.add
    split
    · rename_i h; simp [h]
    · rfl
theorem len_le {α : Type} {φ : α → Value} {ok : α → Prop} {w : World} {a : Option Addr} {len cap : Nat} {zs : List α} (h : IsRow φ ok w a len cap zs) : len ≤ 9223372036854775807 := by
  rcases h with ⟨rfl, rfl, rfl, rfl⟩ | ⟨x, rfl, h1, h2, _⟩
  · omega
  · unfold maxLen at h2; omega
theorem below_drewN {B : Nat} {w w' : World} (h : Below B w w') (q : Nat) : Below B w (w'.drewN q) := ⟨h.1, h.2, h.3, h.4, h.5⟩
def Byt (Q : Prop) (w : World) (e : Ending) (w' : World) : Prop := ∃ b, e = .returned (.bool b) ∧ w = w' ∧ (b = true → Q)
set_option maxRecDepth 100000 in
theorem bytes_any (A : Option Addr) (n c : Nat) (w : World) (h1 : n ≤ 9223372036854775807) :
    Calls Try.prog 4 #[.slice A n c] w (Byt (n ≤ big20) w) := by
  go_enter Try.func4, Try.ntmps4
  go_wp2_with fail
  all_goals (go_ret; exact ⟨_, rfl, rfl, fun h => by first | (unfold big20; omega) | cases h⟩)
def Made (w : World) (n : Nat) (us : List Bool) (e : Ending) (w' : World) : Prop := ∃ A c, e = .returned (.slice A n c) ∧ Sl w' w'.heap.size A n (us.map Value.bool) ∧ Below w.heap.size w w'
theorem cloned_made (A : Option Addr) (n c : Nat) (us : List Bool) (w : World) (hs : Sl w w.heap.size A n (us.map Value.bool)) (hn : n ≤ big20) (hnil : A = none → n = 0 ∧ c = 0) :
    Calls Try.prog 5 #[.slice A n c] w (Made w n us) :=
  (clone_bool A n c us w hs hn hnil).mono fun e w' h => by
    rcases h with ⟨rfl, h1, rfl⟩ | ⟨_, h1, rfl⟩
    · obtain ⟨rfl, rfl⟩ := hnil rfl
      exact ⟨_, _, h1, hs, Below.refl _ _⟩
    · have := Sl.new w 4 (us.map Value.bool) (w.alloc (.cells (us.map Value.bool).toArray 4)).heap.size (by simp)
      rw [hs.1] at this
      exact ⟨_, _, h1, this, (Below.refl _ _).alloc (Nat.le_refl _) _⟩
theorem info_p : (Try.prog.info? 33).map (fun i => (i.zero, i.size, i.bytes)) = some (some (.pointer none), 1, 8) := by kernel_rfl
theorem info_i : (Try.prog.info? 3).map (fun i => (i.zero, i.size, i.bytes)) = some (some (.int .i64 0), 1, 8) := by kernel_rfl
theorem if_eq (b : Nat) (w : World) (d : Nat) : (Op.equalIn (d + 2) 28 (.iface 33 (.pointer (some ⟨b, 0, none⟩))) (.iface 33 (.pointer (some ⟨b, 0, none⟩)))).run Try.prog w = .ok true w := by
  have hc : (Try.prog.info? 33).map (·.comparable) = some true := by kernel_rfl
  cases hi : Try.prog.info? 33 with
  | none => simp [hi] at hc
  | some i =>
    have hcc : i.comparable = true := by simpa [hi] using hc
    simp [Op.equalIn, run_underlying Try.underlying28, run_underlying Try.underlying33, typeInfo, hi, hcc, run_sameAddr_same]
theorem ife_neq (b : Nat) (w : World) : (binOp .neq 28 (.iface 33 (.pointer (some ⟨b, 0, none⟩))) (.iface 33 (.pointer (some ⟨b, 0, none⟩)))).run Try.prog w = .ok (.bool false) w := by
  simp only [binOp]
  simp [Op.equal, Op.maxDepth, if_eq b w 9998]
theorem ife_eql (b : Nat) (w : World) : (binOp .eql 28 (.iface 33 (.pointer (some ⟨b, 0, none⟩))) (.iface 33 (.pointer (some ⟨b, 0, none⟩)))).run Try.prog w = .ok (.bool true) w := by
  simp only [binOp]
  simp [Op.equal, Op.maxDepth, if_eq b w 9998]
structure At2 (w : World) (b : Nat) (d : Value) (l : Int) : Prop where
  c0 : w.cell? ⟨b, 0, none⟩ = some d
  c1 : w.cell? ⟨b, 1, none⟩ = some (.int .i32 l)
  f0 : w.frozen? ⟨b, 0, none⟩ = false
  f1 : w.frozen? ⟨b, 1, none⟩ = false
theorem At2.below {w w1 : World} {b B : Nat} {d : Value} {l : Int} (h : At2 w b d l) (hb : Below B w w1) (hB : b < B) : At2 w1 b d l := by
  have hc : ∀ o, w1.cell? ⟨b, o, none⟩ = w.cell? ⟨b, o, none⟩ := fun o => hb.cell (p := ⟨b, o, none⟩) hB
  have hf : ∀ o, w1.frozen? ⟨b, o, none⟩ = w.frozen? ⟨b, o, none⟩ := fun o => hb.frozen (p := ⟨b, o, none⟩) hB
  exact ⟨by rw [hc]; exact h.c0, by rw [hc]; exact h.c1, by rw [hf]; exact h.f0, by rw [hf]; exact h.f1⟩
theorem At2.set {w : World} {b : Nat} {d : Value} {l : Int} (d' : Value) (l' : Int) (h : At2 w b d l) : At2 ((w.setCell ⟨b, 0, none⟩ d').setCell ⟨b, 1, none⟩ (.int .i32 l')) b d' l' := by
  obtain ⟨c0, c1, f0, f1⟩ := h
  constructor <;> simp [go_sem, *]
/-- What holds at the head of round k of the law's first loop. H: the first block behind the clone. -/
structure Fold (w : World) (H : Nat) (A : Option Addr) (n : Nat) (bs : List Bool) (k : Nat) (ps : List (Nat × Nat)) (xs : List Value) (d : Value) (l : Int) (wr : World) : Prop where
  nums : wr.ownsRow H 33 1 (.slice (some ⟨H, 0, none⟩) n n) n xs
  pres : wr.ownsRow H 3 1 (.slice (some ⟨H + 1, 0, none⟩) ps.length n) ps.length (ps.map fun q => .int .i64 (q.1 : Int))
  box : At2 wr (H + 1 + 1) d l
  ch : Ch wr (H + 3) wr.heap.size ps.reverse d l
  idx : ∀ q ∈ ps, q.1 < k ∧ q.1 < n ∧ xs[q.1]? = some (.pointer (some ⟨q.2, 0, none⟩))
  len : ps.length ≤ k
  sl : Sl wr H A n (bs.map Value.bool)
  bl : Below w.heap.size w wr
  sz : H + 3 ≤ wr.heap.size
  lo : w.heap.size ≤ H
theorem cell_block {w w' : World} {b : Nat} (h : w'.heap[b]? = w.heap[b]?) (o : Nat) : w'.cell? ⟨b, o, none⟩ = w.cell? ⟨b, o, none⟩ := by simp [World.cell?, h]
theorem frozen_block {w w' : World} {b : Nat} (h : w'.heap[b]? = w.heap[b]?) (o : Nat) : w'.frozen? ⟨b, o, none⟩ = w.frozen? ⟨b, o, none⟩ := by simp [World.frozen?, h]
theorem own_block {w w' : World} {H : Nat} {e : TypeId} {g n cap : Nat} {xs : List Value} (h : w.ownsRow H e 1 (.slice (some ⟨g, 0, none⟩) n cap) n xs) (hb : w'.heap[g]? = w.heap[g]?) : w'.ownsRow H e 1 (.slice (some ⟨g, 0, none⟩) n cap) n xs := by
  refine ⟨h.1, ?_⟩
  rcases h.2 with ⟨h', _⟩ | ⟨g', cap', cur, h', hb', hgg, rest⟩
  · cases h'
  · refine .inr ⟨g', cap', cur, h', hb', ?_, rest⟩
    have e : g = g' := by simp at h'; exact h'.1
    rw [← e] at hgg ⊢
    rw [hb]; exact hgg
theorem own_len {w : World} {H : Nat} {e : TypeId} {v : Value} {n : Nat} {xs : List Value} (h : w.ownsRow H e 1 v n xs) : xs.length = n := by have := h.1; omega
/-- A round that finds nothing. -/
theorem Fold.next {w wr w' : World} {H n k : Nat} {A : Option Addr} {bs : List Bool} {ps : List (Nat × Nat)} {xs : List Value} {d d' : Value} {l l' : Int} (F : Fold w H A n bs k ps xs d l wr)
    (hk : ∀ b, b < wr.heap.size → b ≠ H + 1 + 1 → w'.heap[b]? = wr.heap[b]?) (hs : wr.heap.size ≤ w'.heap.size) (hbx : At2 w' (H + 1 + 1) d' l') (hch : Ch wr (H + 3) wr.heap.size ps.reverse d' l') (hbl : Below w.heap.size w w') : Fold w H A n bs (k + 1) ps xs d' l' w' := by
  have z := F.sz
  exact ⟨own_block F.nums (hk _ (by omega) (by omega)), own_block F.pres (hk _ (by omega) (by omega)), hbx, Ch.keep hs (fun b o h1 h2 => cell_block (hk b h2 (by omega)) o) hch, fun q hq => by have := F.idx q hq; exact ⟨by omega, this.2⟩, by have := F.len; omega, F.sl.keep (fun b o h => cell_block (hk b (by omega) (by omega)) o), hbl, by omega, F.lo⟩
/-- A round that finds one. -/
theorem Fold.more {w wr w' : World} {H n k b : Nat} {A : Option Addr} {bs : List Bool} {ps : List (Nat × Nat)} {xs : List Value} {d d' : Value} {l l' : Int} (F : Fold w H A n bs k ps xs d l wr) (hkn : k < n)
    (hk : ∀ b, b < wr.heap.size → b ≠ H → b ≠ H + 1 → b ≠ H + 1 + 1 → w'.heap[b]? = wr.heap[b]?) (hs : wr.heap.size ≤ w'.heap.size) (hbx : At2 w' (H + 1 + 1) d' l') (hch : Ch w' (H + 3) w'.heap.size ((k, b) :: ps.reverse) d' l') (hbl : Below w.heap.size w w')
    (hn : w'.ownsRow H 33 1 (.slice (some ⟨H, 0, none⟩) n n) n (xs.set k (.pointer (some ⟨b, 0, none⟩)))) (hp : w'.ownsRow H 3 1 (.slice (some ⟨H + 1, 0, none⟩) (ps.length + 1) n) (ps.length + 1) ((ps.map fun q => .int .i64 (q.1 : Int)) ++ [.int .i64 (k : Int)])) : Fold w H A n bs (k + 1) (ps ++ [(k, b)]) (xs.set k (.pointer (some ⟨b, 0, none⟩))) d' l' w' := by
  have z := F.sz
  have lx := own_len F.nums
  refine ⟨hn, by simpa using hp, hbx, by simpa using hch, fun q hq => ?_, by have := F.len; simp; omega, F.sl.keep (fun b o h => cell_block (hk b (by omega) (by omega) (by omega) (by omega)) o), hbl, by omega, F.lo⟩
  rw [List.mem_append] at hq
  rcases hq with hq | hq
  · have := F.idx q hq
    exact ⟨by omega, this.2.1, by rw [List.getElem?_set_ne (by omega)]; exact this.2.2⟩
  · simp at hq; subst hq
    exact ⟨by simp, hkn, List.getElem?_set_self (by omega)⟩
theorem ch_cons {w : World} {lo hi B k b : Nat} {ps : List (Nat × Nat)} {d : Value} {l : Int} (hne : ps.reverse ≠ []) (h : Ch w lo hi ps.reverse d l) (h1 : lo ≤ B) (h2 : B < hi) (c0 : w.cell? ⟨B, 0, none⟩ = some d) (c1 : w.cell? ⟨B, 1, none⟩ = some (.int .i32 l)) (c2 : w.cell? ⟨B, 2, none⟩ = some (.iface 33 (.pointer (some ⟨b, 0, none⟩)))) (c3 : w.cell? ⟨B, 3, none⟩ = some (.int .i32 (k : Int))) (c4 : w.cell? ⟨B, 4, none⟩ = some (.int .u8 36)) (c5 : w.cell? ⟨B, 5, none⟩ = some (.bool false)) :
    Ch w lo hi ((k, b) :: ps.reverse) (.iface 38 (.pointer (some ⟨B, 0, none⟩))) l := by
  cases hr : ps.reverse with
  | nil => exact absurd hr hne
  | cons r rs => rw [hr] at h; exact ⟨B, d, rfl, h1, h2, c0, c1, c2, c3, c4, c5, h⟩
theorem ch_loc {w : World} {lo hi : Nat} : ∀ {ps : List (Nat × Nat)} {d : Value} {l : Int}, Ch w lo hi ps d l → ∀ q, ps.getLast? = some q → l = (q.1 : Int)
  | [], _, _, _, q, hq => by simp at hq
  | [p], _, _, h, q, hq => by simp at hq; subst hq; exact h.2
  | _ :: r :: rs, _, _, ⟨_, _, _, _, _, _, _, _, _, _, _, ht⟩, q, hq => ch_loc ht q (by simpa using hq)
theorem take_rev (ps : List (Nat × Nat)) (j : Nat) (hj : j + 1 < ps.length) : (ps.take (j + 1 + 1)).reverse = ps[j + 1] :: (ps.take (j + 1)).reverse := by
  rw [List.take_succ_eq_append_getElem hj]; simp
theorem ch_step {w : World} {lo hi : Nat} {ps : List (Nat × Nat)} {j : Nat} {d : Value} {l : Int} (hj : j + 1 < ps.length) (h : Ch w lo hi (ps.take (j + 1 + 1)).reverse d l) :
    ∃ B d', d = .iface 38 (.pointer (some ⟨B, 0, none⟩)) ∧ lo ≤ B ∧ B < hi ∧ w.cell? ⟨B, 0, none⟩ = some d' ∧ w.cell? ⟨B, 1, none⟩ = some (.int .i32 l) ∧ w.cell? ⟨B, 2, none⟩ = some (.iface 33 (.pointer (some ⟨ps[j + 1].2, 0, none⟩))) ∧ w.cell? ⟨B, 3, none⟩ = some (.int .i32 (ps[j + 1].1 : Int)) ∧ w.cell? ⟨B, 4, none⟩ = some (.int .u8 36) ∧ w.cell? ⟨B, 5, none⟩ = some (.bool false) ∧ Ch w lo hi (ps.take (j + 1)).reverse d' l := by
  rw [take_rev ps j hj] at h
  cases hr : (ps.take (j + 1)).reverse with
  | nil => have := congrArg List.length hr; rw [List.length_reverse, List.length_take] at this; simp only [List.length_nil] at this; omega
  | cons r rs => rw [hr] at h; exact h
theorem ch_step' {w : World} {lo hi : Nat} {ps : List (Nat × Nat)} {j : Nat} {d : Value} {l : Int} (h0 : j ≠ 0) (hj : j < ps.length) (h : Ch w lo hi (ps.take (j + 1)).reverse d l) :
    ∃ B d', d = .iface 38 (.pointer (some ⟨B, 0, none⟩)) ∧ lo ≤ B ∧ B < hi ∧ w.cell? ⟨B, 0, none⟩ = some d' ∧ w.cell? ⟨B, 1, none⟩ = some (.int .i32 l) ∧ w.cell? ⟨B, 2, none⟩ = some (.iface 33 (.pointer (some ⟨ps[j].2, 0, none⟩))) ∧ w.cell? ⟨B, 3, none⟩ = some (.int .i32 (ps[j].1 : Int)) ∧ w.cell? ⟨B, 4, none⟩ = some (.int .u8 36) ∧ w.cell? ⟨B, 5, none⟩ = some (.bool false) ∧ Ch w lo hi (ps.take (j - 1 + 1)).reverse d' l := by
  cases j with
  | zero => exact absurd rfl h0
  | succ j => exact ch_step hj h
/-- What holds at the head of a round of the law's second loop: only the box G has been written since wx. -/
structure Back (w wx : World) (H G : Nat) (ps : List (Nat × Nat)) (j : Nat) (d : Value) (l : Int) (wr : World) : Prop where
  keep : ∀ b, b < G → wr.heap[b]? = wx.heap[b]?
  box : At2 wr G d l
  ch : Ch wx (H + 3) G (ps.take (j + 1)).reverse d l
  bl : Below w.heap.size w wr
  sz : G < wr.heap.size

set_option maxRecDepth 100000 in
set_option maxHeartbeats 4000000 in
theorem walk (a0 : Option Addr) (len0 cap0 : Nat) (z0 : List Bool) (w : World) (w0 : IsRow Value.bool (fun _ => True) w a0 len0 cap0 z0) :
    Calls Try.prog 3 #[.slice a0 len0 cap0] w fun e w' => e = .returned (.bool true) ∧ Below w.heap.size w w' := by
  have l0 := len_le w0
  obtain ⟨s0, n0⟩ := sl_of_row w0
  clear w0
  have N0 := Lib.hid n0
  clear n0
  go_enter Try.func3, Try.ntmps3
  go_wp2_with fail
  refine (bytes_any a0 len0 cap0 w l0).mono ?_
  rintro e w1 ⟨b, rfl, rfl, hq⟩
  cases b
  · go_wp2_with fail
    go_ret
    exact ⟨rfl, Below.refl _ _⟩
  have b0 := hq rfl
  clear hq
  by_cases hbig : 4096 < len0
  · go_wp2_with fail
    go_ret
    exact ⟨rfl, Below.refl _ _⟩
  have hn : len0 ≤ 4096 := by omega
  clear hbig
  go_wp2_with fail
  refine (cloned_made a0 len0 cap0 z0 w s0 b0 N0.out).mono ?_
  rintro e w1 ⟨A, c, rfl, sA, hb1⟩
  have SA := Lib.hid sA
  have B1 := Lib.hid hb1
  clear sA hb1 s0 b0 l0
  generalize len0 = n at *
  obtain ⟨i0, hi, hz0, hz1, hz2⟩ := info_three info_p
  have hmk := run_make (P := Try.prog) w1 25 33 i0 (.pointer none) Try.underlying25 hi hz0 .i64 .i64 n n (by omega) (by omega) (by rw [hz2]; omega) (by omega)
  rw [hz1, Nat.mul_one, Int.toNat_natCast] at hmk
  obtain ⟨i1, gi, gz0, gz1, gz2⟩ := info_three info_i
  have hml := fun w : World => run_make (P := Try.prog) w 26 3 i1 (.int .i64 0) Try.underlying26 gi gz0 .i64 .i64 0 n (by omega) (by omega) (by rw [gz2]; omega) (by omega)
  simp only [gz1, Nat.mul_one, Int.toNat_natCast] at hml
  go_wp2_with fail
  clear hmk hml hi hz0 hz1 hz2 gi gz0 gz1 gz2 i0 i1
  obtain ⟨H, hH⟩ : ∃ H, H = w1.heap.size := ⟨_, rfl⟩
  go_loopw [4, 6, 7] (fun s i _ wr => ∃ (k : Nat) (ps : List (Nat × Nat)) (xs : List Value) (d : Value) (l : Int), k ≤ n ∧ i = .int .i64 k ∧ s = .slice (some ⟨w1.heap.size + 1, 0, none⟩) ps.length n ∧ Hid (Fold w w1.heap.size A n z0 k ps xs d l wr)) (fun _ i _ _ => n - (intOf i).toNat)
  case atStart =>
    have lo := B1.out.size
    refine ⟨0, [], (madeCells (Value.pointer none).cells n).toList, .nilIface, 0, by omega, rfl, rfl, ?_⟩
    have sz : (madeCells (Value.pointer none).cells n).size = n * 1 := by simp [madeCells]
    have sz' : (madeCells (Value.int .i64 0).cells n).size = n * 1 := by simp [madeCells]
    have own2 := World.ownsRow_made (base := w1.heap.size) (e := 3) (size := 1) (w1.alloc (.cells (madeCells (Value.pointer none).cells n) 33)) (madeCells (Value.int .i64 0).cells n) n (by simp) (by unfold maxLen; omega) sz'
    rw [show (w1.alloc (.cells (madeCells (Value.pointer none).cells n) 33)).heap.size = w1.heap.size + 1 by simp] at own2
    refine ⟨((World.ownsRow_lit w1 _ n (Nat.le_refl _) (by unfold maxLen; omega) sz).alloc _).alloc _, own2.alloc _, by constructor <;> simp [go_sem], rfl, by simp, by simp, ?_, ?_, by simp, lo⟩
    · exact SA.out.below ((((Below.refl _ _).alloc (Nat.le_refl _) _).alloc (by simp) _).alloc (by simp; omega) _)
    · exact ((B1.out.alloc lo _).alloc (by simp; omega) _).alloc (by simp; omega) _
  case round =>
    obtain ⟨k, ps, xs, d, l, hk, rfl, rfl, F⟩ := hrel
    by_cases hlt : k < n
    · have f := F.out
      obtain ⟨b, off, u, hA, hbb, hu, hx⟩ := f.sl.at_ (k := k) hlt
      obtain ⟨m, hm, rfl⟩ : ∃ m, z0[k]? = some m ∧ Value.bool m = u := by simpa using hu
      subst hA
      have zz := f.sz
      have hbl : b < wr.heap.size := by omega
      have z2 : w1.heap.size + 1 + 1 < wr.heap.size := by omega
      have z1 : w1.heap.size + 1 < wr.heap.size := by omega
      have z0' : w1.heap.size < wr.heap.size := by omega
      obtain ⟨c0, c1, f0, f1⟩ := f.box
      have lx := own_len f.nums
      have n0 : wr.cell? ⟨w1.heap.size, k, none⟩ = some (xs[k]'(by omega)) := by rw [f.nums.cellAt k (by omega)]; exact List.getElem?_eq_getElem _
      have n1 : wr.frozen? ⟨w1.heap.size, k, none⟩ = false := f.nums.frozenAt k
      have shp := f.ch.shape
      clear hu f zz
      cases m
      · rcases shp with ⟨hp0, rfl⟩ | ⟨hp0, T, v, rfl⟩
        · have HP := Lib.hid hp0
          clear hp0
          go_wp2_with fail
          refine (jwc_none l k _).mono ?_
          rintro e w2 ⟨rfl, hb2⟩
          have B2 := Lib.hid hb2
          have a2 : At2 w2 (w1.heap.size + 1 + 1) .nilIface l := At2.below (by constructor <;> simp [go_sem, *]) hb2 (by simp <;> omega)
          have AT := Lib.hid a2
          obtain ⟨g0, g1, g2, g3⟩ := a2
          have y2 : w1.heap.size + 1 + 1 < w2.heap.size := by have := hb2.size; simp at this; omega
          have y3 : wr.heap.size ≤ w2.heap.size := by have := hb2.size; simp at this; omega
          clear hb2
          go_wp2_with fail
          go_roundw
          case rel =>
            refine ⟨k + 1, ps, xs, .nilIface, k, by omega, by go_num, rfl, ?_⟩
            refine F.out.next (fun b hb hne => ?_) (by simp; omega) (AT.out.set _ _) (by rw [HP.out]; rfl) ?_
            · rw [Below.heap_setCell _ _ _ _ (by simp <;> omega), Below.heap_setCell _ _ _ _ (by simp <;> omega), B2.out.block b (by simp; omega), Below.heap_alloc _ _ _ hb]
            · have lo := F.out.lo
              exact (((F.out.bl.alloc (by omega) _).trans (B2.out.mono (by simp; omega))).setCell (by simp; omega) _).setCell (by simp; omega) _
          case measure => simp [intOf]; omega
        · have HP := Lib.hid hp0
          clear hp0
          go_wp2_with fail
          refine (jwc_right T v l k _).mono ?_
          rintro e w2 ⟨rfl, hb2⟩
          have B2 := Lib.hid hb2
          have a2 : At2 w2 (w1.heap.size + 1 + 1) (.iface T v) l := At2.below (by constructor <;> simp [go_sem, *]) hb2 (by simp <;> omega)
          have AT := Lib.hid a2
          obtain ⟨g0, g1, g2, g3⟩ := a2
          have y2 : w1.heap.size + 1 + 1 < w2.heap.size := by have := hb2.size; simp at this; omega
          have y3 : wr.heap.size ≤ w2.heap.size := by have := hb2.size; simp at this; omega
          clear hb2
          go_wp2_with fail
          go_roundw
          case rel =>
            refine ⟨k + 1, ps, xs, .iface T v, l, by omega, by go_num, rfl, ?_⟩
            refine F.out.next (fun b hb hne => ?_) (by simp; omega) (AT.out.set _ _) F.out.ch ?_
            · rw [Below.heap_setCell _ _ _ _ (by simp <;> omega), Below.heap_setCell _ _ _ _ (by simp <;> omega), B2.out.block b (by simp; omega), Below.heap_alloc _ _ _ hb]
            · have lo := F.out.lo
              exact (((F.out.bl.alloc (by omega) _).trans (B2.out.mono (by simp; omega))).setCell (by simp; omega) _).setCell (by simp; omega) _
          case measure => simp [intOf]; omega
      · go_upto_region 16 with fail
        obtain ⟨wa, hwa⟩ : ∃ wa, wa = ((wr.setCell ⟨w1.heap.size, k, none⟩ (.pointer (some ⟨wr.heap.size + 1, 0, none⟩))).alloc (.cells #[.iface 33 (.pointer (some ⟨wr.heap.size + 1, 0, none⟩)), .int .i32 k] 32)).alloc (.cells #[.float .f64 (floatOfInt .f64 k)] 36) := ⟨_, rfl⟩
        rw [← hwa]
        have sza : wa.heap.size = wr.heap.size + 2 := by rw [hwa]; simp
        have NU := Lib.hid (show wa.ownsRow w1.heap.size 33 1 (.slice (some ⟨w1.heap.size, 0, none⟩) n n) n (xs.set k (.pointer (some ⟨wr.heap.size + 1, 0, none⟩))) by rw [hwa]; exact ((F.out.nums.stored k _).1.alloc _).alloc _)
        have hkeep : ∀ b, b < wr.heap.size → b ≠ w1.heap.size → wa.heap[b]? = wr.heap[b]? := fun b hb hne => by
          rw [hwa, Below.heap_alloc _ _ _ (by simp; omega), Below.heap_alloc _ _ _ (by simp; omega), Below.heap_setCell _ _ _ _ (by simp <;> omega)]
        have PR := Lib.hid (own_block F.out.pres (hkeep _ z1 (by omega)))
        have KE := Lib.hid hkeep
        have AT := Lib.hid (show At2 wa (w1.heap.size + 1 + 1) d l from ⟨by rw [cell_block (hkeep _ z2 (by omega))]; exact c0, by rw [cell_block (hkeep _ z2 (by omega))]; exact c1, by rw [frozen_block (hkeep _ z2 (by omega))]; exact f0, by rw [frozen_block (hkeep _ z2 (by omega))]; exact f1⟩)
        have IT := Lib.hid (show wa.cell? ⟨wr.heap.size, 0, none⟩ = some (.iface 33 (.pointer (some ⟨wr.heap.size + 1, 0, none⟩))) ∧ wa.cell? ⟨wr.heap.size, 1, none⟩ = some (.int .i32 k) by rw [hwa]; constructor <;> simp [go_sem])
        have BA := Lib.hid (show Below w.heap.size w wa by have lo := F.out.lo; rw [hwa]; exact ((F.out.bl.setCell (by simp; omega) _).alloc (by simp; omega) _).alloc (by simp; omega) _)
        have lk := F.out.len
        have SZ := Lib.hid sza
        have za : wr.heap.size + 1 < wa.heap.size := by omega
        clear hwa sza hkeep c0 c1 f0 f1 n0 n1 hx
        obtain ⟨i1, gi, gz0, gz1, gz2⟩ := info_three info_i
        have GI := Lib.hid gi
        have GZ := Lib.hid gz1
        clear gi gz0 gz1 gz2
        go_wp2_with (at_builtin; (refine wpList_append_fits _ rfl _ _ 26 rfl w1.heap.size 3 i1 1 Try.underlying26 GI.out GZ.out (w1.heap.size + 1) ps.length n _ rfl (PR.out.alloc _) ⟨wa.heap.size, 0, none⟩ 1 1 [.int .i64 k] rfl rfl ?sc1 ?sc2 ?sc3 ?_))
        case sc1 => intro j u hu; cases j <;> simp at hu; subst hu; simp [go_sem]
        case sc2 => simp [Value.oneCell']
        case sc3 => omega
        intro wp own' gr'
        have OW := Lib.hid own'
        have KP := Lib.hid (show ∀ b, b < wa.heap.size → b ≠ w1.heap.size + 1 → wp.heap[b]? = wa.heap[b]? from fun b hb hne => by
          rw [gr'.block b (by simp; omega) (by simp; omega), Below.heap_alloc _ _ _ hb])
        have szp : wa.heap.size ≤ wp.heap.size := by have := gr'.size; simp at this; omega
        have BP := Lib.hid (show Below w.heap.size w wp from (BA.out.alloc (by have := F.out.lo; omega) _).grown gr' (by have := F.out.lo; simp; omega) (fun k hk => by have := F.out.lo; simp at hk; omega))
        have NP := Lib.hid (own_block NU.out (KP.out _ (by omega) (by omega)))
        have c0 : wp.cell? ⟨w1.heap.size + 1 + 1, 0, none⟩ = some d := by rw [cell_block (KP.out _ (by omega) (by omega))]; exact AT.out.c0
        have c1 : wp.cell? ⟨w1.heap.size + 1 + 1, 1, none⟩ = some (.int .i32 l) := by rw [cell_block (KP.out _ (by omega) (by omega))]; exact AT.out.c1
        have f0 : wp.frozen? ⟨w1.heap.size + 1 + 1, 0, none⟩ = false := by rw [frozen_block (KP.out _ (by omega) (by omega))]; exact AT.out.f0
        have f1 : wp.frozen? ⟨w1.heap.size + 1 + 1, 1, none⟩ = false := by rw [frozen_block (KP.out _ (by omega) (by omega))]; exact AT.out.f1
        have i0 : wp.cell? ⟨wr.heap.size, 0, none⟩ = some (.iface 33 (.pointer (some ⟨wr.heap.size + 1, 0, none⟩))) := by rw [cell_block (KP.out _ (by omega) (by omega))]; exact IT.out.1
        have i1 : wp.cell? ⟨wr.heap.size, 1, none⟩ = some (.int .i32 k) := by rw [cell_block (KP.out _ (by omega) (by omega))]; exact IT.out.2
        clear own' gr'
        rcases shp with ⟨hp0, rfl⟩ | ⟨hp0, T, v, rfl⟩
        · have HP := Lib.hid hp0
          clear hp0
          go_wp2_with fail
          refine (jwc_left _ _ l k _).mono ?_
          rintro e w2 ⟨rfl, hb2⟩
          have B2 := Lib.hid hb2
          have y3 : wp.heap.size ≤ w2.heap.size := hb2.size
          have a2 : At2 w2 (w1.heap.size + 1 + 1) .nilIface l := At2.below (by constructor <;> assumption) hb2 (by omega)
          have AT3 := Lib.hid a2
          obtain ⟨g0, g1, g2, g3⟩ := a2
          have y2 : w1.heap.size + 1 + 1 < w2.heap.size := by omega
          clear hb2 c0 c1 f0 f1 i0 i1
          go_wp2_with fail
          go_roundw
          case rel =>
            have lo := F.out.lo
            have sz3 := F.out.sz
            have kp : ∀ b, b < wr.heap.size → b ≠ w1.heap.size → b ≠ w1.heap.size + 1 → b ≠ w1.heap.size + 1 + 1 → ((w2.setCell ⟨w1.heap.size + 1 + 1, 0, none⟩ (.iface 33 (.pointer (some ⟨wr.heap.size + 1, 0, none⟩)))).setCell ⟨w1.heap.size + 1 + 1, 1, none⟩ (.int .i32 k)).heap[b]? = wr.heap[b]? := fun b hb h1 h2 h3 => by
              rw [Below.heap_setCell _ _ _ _ (by simp <;> omega), Below.heap_setCell _ _ _ _ (by simp <;> omega), B2.out.block b (by omega), KP.out b (by omega) h2, KE.out b hb h1]
            refine ⟨k + 1, ps ++ [(k, wr.heap.size + 1)], xs.set k (.pointer (some ⟨wr.heap.size + 1, 0, none⟩)), (.iface 33 (.pointer (some ⟨wr.heap.size + 1, 0, none⟩))), k, by omega, by go_num, by simp, ?_⟩
            refine F.out.more hlt kp (by simp; omega) (AT3.out.set _ _) ?_ ?_ ?_ ?_
            · rw [HP.out]; exact ⟨rfl, rfl⟩
            · exact (((BP.out).trans (B2.out.mono (by omega))).setCell (by simp <;> omega) _).setCell (by simp <;> omega) _
            · refine own_block NP.out ?_
              rw [Below.heap_setCell _ _ _ _ (by simp <;> omega), Below.heap_setCell _ _ _ _ (by simp <;> omega), B2.out.block _ (by omega)]
            · refine own_block OW.out ?_
              rw [Below.heap_setCell _ _ _ _ (by simp <;> omega), Below.heap_setCell _ _ _ _ (by simp <;> omega), B2.out.block _ (by omega)]
          case measure => simp [intOf]; omega
        · have HP := Lib.hid hp0
          clear hp0
          go_wp2_with fail
          refine (jwc_both T _ v _ l k _).mono ?_
          rintro e w2 ⟨B, rfl, hB1, hB2, q0, q1, q2, q3, q4, q5, hb2⟩
          have B2 := Lib.hid hb2
          have y3 : wp.heap.size ≤ w2.heap.size := hb2.size
          have a2 : At2 w2 (w1.heap.size + 1 + 1) (.iface T v) l := At2.below (by constructor <;> assumption) hb2 (by omega)
          have AT3 := Lib.hid a2
          obtain ⟨g0, g1, g2, g3⟩ := a2
          have y2 : w1.heap.size + 1 + 1 < w2.heap.size := by omega
          have QS := Lib.hid (show w2.cell? ⟨B, 0, none⟩ = some (.iface T v) ∧ w2.cell? ⟨B, 1, none⟩ = some (.int .i32 l) ∧ w2.cell? ⟨B, 2, none⟩ = some (.iface 33 (.pointer (some ⟨wr.heap.size + 1, 0, none⟩))) ∧ w2.cell? ⟨B, 3, none⟩ = some (.int .i32 k) ∧ w2.cell? ⟨B, 4, none⟩ = some (.int .u8 36) ∧ w2.cell? ⟨B, 5, none⟩ = some (.bool false) from ⟨q0, q1, q2, q3, q4, q5⟩)
          clear hb2 c0 c1 f0 f1 i0 i1 q0 q1 q2 q3 q4 q5
          go_wp2_with fail
          go_roundw
          case rel =>
            have lo := F.out.lo
            have sz3 := F.out.sz
            have kp : ∀ b, b < wr.heap.size → b ≠ w1.heap.size → b ≠ w1.heap.size + 1 → b ≠ w1.heap.size + 1 + 1 → ((w2.setCell ⟨w1.heap.size + 1 + 1, 0, none⟩ (.iface 38 (.pointer (some ⟨B, 0, none⟩)))).setCell ⟨w1.heap.size + 1 + 1, 1, none⟩ (.int .i32 l)).heap[b]? = wr.heap[b]? := fun b hb h1 h2 h3 => by
              rw [Below.heap_setCell _ _ _ _ (by simp <;> omega), Below.heap_setCell _ _ _ _ (by simp <;> omega), B2.out.block b (by omega), KP.out b (by omega) h2, KE.out b hb h1]
            refine ⟨k + 1, ps ++ [(k, wr.heap.size + 1)], xs.set k (.pointer (some ⟨wr.heap.size + 1, 0, none⟩)), (.iface 38 (.pointer (some ⟨B, 0, none⟩))), l, by omega, by go_num, by simp, ?_⟩
            refine F.out.more hlt kp (by simp; omega) (AT3.out.set _ _) ?_ ?_ ?_ ?_
            · obtain ⟨q0, q1, q2, q3, q4, q5⟩ := QS.out
              have kB : ∀ o, ((w2.setCell ⟨w1.heap.size + 1 + 1, 0, none⟩ (.iface 38 (.pointer (some ⟨B, 0, none⟩)))).setCell ⟨w1.heap.size + 1 + 1, 1, none⟩ (.int .i32 l)).cell? ⟨B, o, none⟩ = w2.cell? ⟨B, o, none⟩ := fun o => cell_block (by rw [Below.heap_setCell _ _ _ _ (by simp <;> omega), Below.heap_setCell _ _ _ _ (by simp <;> omega)]) o
              exact ch_cons HP.out (Ch.keep (by simp; omega) (fun b o h1 h2 => cell_block (kp b h2 (by omega) (by omega) (by omega)) o) F.out.ch) (by omega) (by simp; omega) (by rw [kB]; exact q0) (by rw [kB]; exact q1) (by rw [kB]; exact q2) (by rw [kB]; exact q3) (by rw [kB]; exact q4) (by rw [kB]; exact q5)
            · exact (((BP.out).trans (B2.out.mono (by omega))).setCell (by simp <;> omega) _).setCell (by simp <;> omega) _
            · refine own_block NP.out ?_
              rw [Below.heap_setCell _ _ _ _ (by simp <;> omega), Below.heap_setCell _ _ _ _ (by simp <;> omega), B2.out.block _ (by omega)]
            · refine own_block OW.out ?_
              rw [Below.heap_setCell _ _ _ _ (by simp <;> omega), Below.heap_setCell _ _ _ _ (by simp <;> omega), B2.out.block _ (by omega)]
          case measure => simp [intOf]; omega
    · obtain rfl : k = n := by omega
      have f := F.out
      have zz := f.sz
      have z2 : w1.heap.size + 1 + 1 < wr.heap.size := by omega
      obtain ⟨c0, c1, f0, f1⟩ := f.box
      rcases f.ch.shape with ⟨hp0, rfl⟩ | ⟨hp0, T, v, rfl⟩
      · obtain rfl : ps = [] := by simpa using hp0
        have BL := Lib.hid f.bl
        clear f zz hp0 f0 f1
        go_wp2_with fail
        go_ret
        exact ⟨rfl, BL.out⟩
      · have hl : 0 < ps.length := by
          rcases Nat.eq_zero_or_pos ps.length with h | h
          · exact absurd (by simp [List.length_eq_zero_iff.1 h]) hp0
          · exact h
        have lk := f.len
        have hp : ps.length ≤ 4096 := by omega
        have e0 : (ps.length == 0) = false := by rw [beq_eq_false_iff_ne]; omega
        have e0' : ((ps.length : Int) == 0) = false := by rw [beq_eq_false_iff_ne]; omega
        have pc : ∀ j (hj : j < ps.length), wr.cell? ⟨w1.heap.size + 1, j, none⟩ = some (.int .i64 (ps[j].1 : Int)) := fun j hj => by
          rw [f.pres.cellAt j (by omega)]; simp [hj]
        have PC := Lib.hid pc
        have p0 := pc 0 hl
        have ix := f.idx ps[0] (List.getElem_mem _)
        have q0 : ps[0].1 ≤ 4096 := by omega
        have IX := Lib.hid ix
        clear pc hp0 f ix
        go_wp2_with fail
        obtain ⟨wx, hwx⟩ : ∃ wx, wx = (wr.alloc (.cells #[.int .i32 (ps[0].1 : Int)] 30)).alloc (.cells #[.iface T v, .int .i32 l] 32) := ⟨_, rfl⟩
        rw [← hwx]
        have kx : ∀ b, b < wr.heap.size → wx.heap[b]? = wr.heap[b]? := fun b hb => by rw [hwx, Below.heap_alloc _ _ _ (by simp; omega), Below.heap_alloc _ _ _ hb]
        have sx : wx.heap.size = wr.heap.size + 2 := by rw [hwx]; simp
        have bx : At2 wx (wr.heap.size + 1) (.iface T v) l := by rw [hwx]; constructor <;> simp [go_sem]
        have lx : wx.cell? ⟨wr.heap.size, 0, none⟩ = some (.int .i32 (ps[0].1 : Int)) := by rw [hwx]; simp [go_sem]
        have blx : Below w.heap.size w wx := by have := F.out.lo; rw [hwx]; exact (F.out.bl.alloc (by omega) _).alloc (by simp; omega) _
        have el : l = (ps[0].1 : Int) := ch_loc F.out.ch ps[0] (by rw [List.getLast?_reverse, List.head?_eq_getElem?]; exact List.getElem?_eq_getElem _)
        have chx : Ch wx (w1.heap.size + 3) (wr.heap.size + 1) ps.reverse (.iface T v) l := Ch.keep (by omega) (fun b o _ h2 => cell_block (kx b h2) o) F.out.ch
        have PX := Lib.hid (show ∀ j (hj : j < ps.length), wx.cell? ⟨w1.heap.size + 1, j, none⟩ = some (.int .i64 (ps[j].1 : Int)) ∧ wx.cell? ⟨w1.heap.size, ps[j].1, none⟩ = some (.pointer (some ⟨ps[j].2, 0, none⟩)) ∧ ps[j].1 < k from fun j hj => by
          have ix := F.out.idx ps[j] (List.getElem_mem _)
          refine ⟨by rw [cell_block (kx _ (by omega))]; exact PC.out j hj, ?_, ix.1⟩
          rw [cell_block (kx _ (by omega)), F.out.nums.cellAt _ (by omega)]; exact ix.2.2)
        have LX := Lib.hid lx
        have EL := Lib.hid el
        have SX := Lib.hid sx
        have b0 := Lib.hid (show Back w wx w1.heap.size (wr.heap.size + 1) ps (ps.length - 1) (.iface T v) l wx from ⟨fun _ _ => rfl, bx, by rw [show ps.length - 1 + 1 = ps.length by omega, List.take_length]; exact chx, blx, by omega⟩)
        clear hwx kx bx lx blx el chx sx c0 c1 f0 f1 p0 q0 e0 e0' PC IX
        obtain ⟨P, hP⟩ : ∃ P, P = ps[0].1 := ⟨_, rfl⟩
        have HPP := Lib.hid hP
        clear hP
        obtain ⟨wo, rfl⟩ : ∃ wo : World, wo = wr := ⟨_, rfl⟩
        go_loopw [10, 11, 12] (fun i _ _ wr => ∃ (j : Nat) (d : Value), i = .int .i64 j ∧ j < ps.length ∧ Hid (Back w wx w1.heap.size (wo.heap.size + 1) ps j d l wr)) (fun i _ _ _ => (intOf i).toNat)
        case atStart => exact ⟨ps.length - 1, _, by congr 1; omega, by omega, b0⟩
        case round =>
          obtain ⟨j, d, rfl, hj, BK⟩ := hrel
          have sX := SX.out
          have zz := F.out.sz
          by_cases hz : j = 0
          · subst hz
            have ht := BK.out.ch
            have e1 : (ps.take (0 + 1)).reverse = [ps[0]] := by cases ps with
              | nil => simp at hj
              | cons q qs => simp
            rw [e1] at ht
            obtain ⟨hd, hl1⟩ := ht
            subst hd
            obtain ⟨x1, x2, x3⟩ := PX.out 0 hj
            have kz := BK.out.keep
            have b1 : wr.cell? ⟨w1.heap.size + 1, 0, none⟩ = some (.int .i64 (ps[0].1 : Int)) := by rw [cell_block (kz _ (by omega))]; exact x1
            have b2 : wr.cell? ⟨w1.heap.size, ps[0].1, none⟩ = some (.pointer (some ⟨ps[0].2, 0, none⟩)) := by rw [cell_block (kz _ (by omega))]; exact x2
            have b3 : wr.cell? ⟨wo.heap.size, 0, none⟩ = some (.int .i32 l) := by rw [cell_block (kz _ (by omega)), hl1]; exact LX.out
            obtain ⟨r0, r1, r2, r3⟩ := BK.out.box
            have zG : wo.heap.size + 1 < wr.heap.size := BK.out.sz
            clear hl1 e1 EL LX HPP b0
            generalize ps[0].1 = p at *
            generalize ps[0].2 = b at *
            have p4 : p ≤ 4096 := by omega
            clear x1 x2 kz PX
            go_wp2_with fail
            have t2 : (0 : Int) < (ps.length : Int) := by omega
            have t3 : (0 : Int) ≤ (p : Int) := by omega
            have t4 : (p : Int) < (k : Int) := by omega
            have t6 := fun w => ife_eql b w
            go_quiet (fail)
            clear t2 t3 t4 t6
            go_wp2_with fail
            go_ret
            exact ⟨rfl, below_drewN BK.out.bl _⟩
          · have j1 : 1 ≤ j := by omega
            obtain ⟨B, d', rfl, h1, h2, g0, g1, g2, g3, g4, g5, ht⟩ := ch_step' hz hj BK.out.ch
            obtain ⟨x1, x2, x3⟩ := PX.out j hj
            have kz := BK.out.keep
            obtain ⟨T', v', rfl⟩ : ∃ T v, d' = .iface T v := by
              rcases ht.shape with ⟨h, _⟩ | ⟨_, h⟩
              · exfalso; have := congrArg List.length h; rw [List.length_reverse, List.length_take] at this; simp only [List.length_nil] at this; omega
              · exact h
            have HT := Lib.hid ht
            have a0 : wr.cell? ⟨B, 0, none⟩ = some (.iface T' v') := by rw [cell_block (kz B h2)]; exact g0
            have a1 : wr.cell? ⟨B, 1, none⟩ = some (.int .i32 l) := by rw [cell_block (kz B h2)]; exact g1
            have a2 : wr.cell? ⟨B, 2, none⟩ = some (.iface 33 (.pointer (some ⟨ps[j].2, 0, none⟩))) := by rw [cell_block (kz B h2)]; exact g2
            have a3 : wr.cell? ⟨B, 3, none⟩ = some (.int .i32 (ps[j].1 : Int)) := by rw [cell_block (kz B h2)]; exact g3
            have a4 : wr.cell? ⟨B, 4, none⟩ = some (.int .u8 36) := by rw [cell_block (kz B h2)]; exact g4
            have a5 : wr.cell? ⟨B, 5, none⟩ = some (.bool false) := by rw [cell_block (kz B h2)]; exact g5
            have b1 : wr.cell? ⟨w1.heap.size + 1, j, none⟩ = some (.int .i64 (ps[j].1 : Int)) := by rw [cell_block (kz _ (by omega))]; exact x1
            have b2 : wr.cell? ⟨w1.heap.size, ps[j].1, none⟩ = some (.pointer (some ⟨ps[j].2, 0, none⟩)) := by rw [cell_block (kz _ (by omega))]; exact x2
            have b3 : wr.cell? ⟨wo.heap.size, 0, none⟩ = some (.int .i32 l) := by rw [cell_block (kz _ (by omega)), EL.out]; exact LX.out
            obtain ⟨r0, r1, r2, r3⟩ := BK.out.box
            have zB : B < wr.heap.size := by have := BK.out.sz; omega
            have zG : wo.heap.size + 1 < wr.heap.size := BK.out.sz
            generalize ps[j].1 = p at *
            generalize ps[j].2 = b at *
            have p4 : p ≤ 4096 := by omega
            have j4 : j ≤ 4096 := by have := F.out.len; omega
            have B2 := Lib.hid h2
            clear g0 g1 g2 g3 g4 g5 ht x1 x2 kz h1 h2
            go_wp2_with fail
            have t1 : (0 : Int) ≤ (j : Int) := by omega
            have t2 : (j : Int) < (ps.length : Int) := by omega
            have t3 : (0 : Int) ≤ (p : Int) := by omega
            have t4 : (p : Int) < (k : Int) := by omega
            have t5 : IntKind.i32.wrap (p : Int) = (p : Int) := by rw [IntKind.wrap_i32]; omega
            have t6 := fun w => ife_neq b w
            go_quiet (fail)
            clear t1 t2 t3 t4 t5 t6
            go_wp2_with fail
            have lo := F.out.lo
            refine ⟨⟨j - 1, .iface T' v', by congr 1; omega, by omega, ⟨fun b hb => ?_, At2.set (d := .iface 38 (.pointer (some ⟨B, 0, none⟩))) (l := l) _ _ ⟨r0, r1, r2, r3⟩, HT.out, ?_, ?_⟩⟩, by simp [intOf]; omega⟩
            · rw [Below.heap_setCell _ _ _ _ (by simp <;> omega), Below.heap_setCell _ _ _ _ (by simp <;> omega)]
              exact BK.out.keep b hb
            · exact ((below_drewN BK.out.bl _).setCell (by simp <;> omega) _).setCell (by simp <;> omega) _
            · simp; omega

/-! ### THE ROW's STEP: WRITTEN OUT: LEAVE IT -/
set_option maxRecDepth 100000 in
theorem lifted (os : Os) (started : os.Started) (H : Type) (enc : TypeId × Value → H) :
    ReturnsInHanded {} Try.checked os 3 .any (Rows.fnJoinWithCommaFoldKeepsPresentInOrderSpec.pre6 enc Try.prog Try.f3 Rows.fnJoinWithCommaFoldKeepsPresentInOrderRow.domain false) (Rows.fnJoinWithCommaFoldKeepsPresentInOrderSpec.post enc Try.prog Try.f3 false true false false) := by
  refine returnsInHanded_of_change (C := Try.checked) own started (by kernel_rfl) Try.func3
    (ChangeSpec.witness6 (enc := enc) (C := Try.checked) false ⟨#[], #[.slice none 0 0], []⟩ 8 (by kernel_rfl) (by kernel_rfl) (by kernel_rfl) (by kernel_rfl)) ?_
  intro W base args ds gs before hval0 hW hcnd _
  have hval : ∀ (j : Nat) t v, Try.f3.params[j]? = some t → args[j]? = some v → Value.okWide Try.prog W .any base t v := hval0
  have hW' := hW
  obtain ⟨p, q, hA0, hV, rfl, hfz, hnd⟩ := hW
  have hA : DataW.TrodAll enc Try.prog W 0 (fun _ => true) true Try.f3.params.toList args.toList ds p := hA0
  rw [Try.params3] at hA hval
  obtain ⟨v0, vs0, d0, ds0, p0, q0, hargs, rfl, rfl, h0, r0⟩ := trodAll_cons hA
  obtain ⟨rfl, rfl, rfl⟩ := trodAll_nil r0
  obtain rfl : args = #[v0] := by cases args; simp_all
  obtain ⟨rfl, rfl⟩ := trodVars_none hV
  obtain ⟨a0, len0, cap0, rfl⟩ := okWide_slice Try.underlying22 (hval 0 22 v0 rfl rfl)
  have k0 := h0
  have lt0 : ∀ x ∈ p0, x.block < W.heap.size := by obtain ⟨m, hm⟩ := k0; exact DataW.trod_lt m _ _ _ hm
  obtain ⟨z0, w0⟩ : ∃ zs, IsRow Value.bool (fun _ => True) W a0 len0 cap0 zs := by
    obtain ⟨fuel, hf⟩ := h0
    exact isRow_of Value.bool (fun _ => True) false Try.underlying22 (by kernel_rfl) hf (fun n v z hz => by obtain ⟨u, h1, _⟩ := DataW.trod_bool Try.underlying4 hz; exact ⟨u, by simpa using h1, trivial⟩)
  clear hA0 hval0
  refine (walk a0 len0 cap0 z0 W w0).mono fun e W' ⟨he, bel⟩ => ?_
  subst he
  exact ⟨_, rfl, _, _, _, [], _, [], hW', trodAll_mk1 (shut_bool Try.underlying4 _), (trodAll_cons_mk (Below.trod laidOut (by kernel_rfl) (of_decide_eq_true (by kernel_rfl)) k0 bel lt0) trodAll_mk0), rfl, bel.frame _, fun h => by cases h⟩

theorem over : Rows.fnJoinWithCommaFoldKeepsPresentInOrderRow.holds Try.pinned (OpenSpec.ofChange Rows.fnJoinWithCommaFoldKeepsPresentInOrderSpec) :=
  OpenClaim.holds_of_wide 3 Try.f3 rfl rfl rfl rfl rfl rfl rfl ⟨rfl, rfl, rfl, rfl, rfl⟩ rfl rfl rfl rfl rfl (by kernel_rfl) Try.func3 (by kernel_rfl)
    (of_decide_eq_true (by kernel_rfl)) (by unfold Func.isWrapper; first | (rw [if_pos (by decide +kernel)]; kernel_rfl) | (rw [if_neg (by decide +kernel)]; exact ⟨rfl, rfl⟩))
    (fun os started H enc _ => lifted os started H enc)

/-- THE STATEMENT -/
theorem proved : Rows.FnJoinWithCommaFoldKeepsPresentInOrderSaid := over
#print axioms proved
end Go.Proofs.Ytgnlfkophffaoad.fnJoinWithCommaFoldKeepsPresentInOrder
