/-
  For every three slices of uint16 the law FnStringCompareUCS2PrefixInvariant returns true and leaves its arguments as they were; no condition.
  The frame of this text was written by the kit's program proof-skeleton.mjs for this statement; the walk and its lemmas are the prover's.
-/
import Derived.Test.YthcjcafillcikabRows
import Derived.WalkKit
import Derived.ProofKit
import Derived.OpenShut
import Derived.Test.YthcjcafillcikabSlW
import Derived.Test.YthcjcafillcikabCl298
import Derived.Test.YthcjcafillcikabCmp
import Derived.DataReads
import Derived.IntWalk
import Derived.Laws.MakeOwn
import Derived.ShutString
import Derived.ChangeOld
import Derived.Below
import Derived.WalkLawsBesides
import Derived.Deep.Slices
import Derived.Laws.Cover2
namespace Go.Proofs.Ythcjcafillcikab.fnStringCompareUCS2PrefixInvariant
open Go.ChangeShapes Go.WideShapes Go.ChangeAt Go.RowKit
open Go.ChangeMaps (open_string shut_string)
open Go.Deep (open_slice1)
set_option linter.unusedVariables false

theorem own : ownKnob Try.prog.godebug = none := by kernel_rfl
theorem laidOut : laidOutB Try.prog = true := by kernel_rfl

def IsRow {α : Type} (φ : α → Value) (ok : α → Prop) (w : World) (a : Option Addr) (len cap : Nat) (zs : List α) : Prop :=
  (a = none ∧ len = 0 ∧ cap = 0 ∧ zs = []) ∨
  ∃ x, a = some x ∧ len ≤ cap ∧ cap ≤ maxLen ∧ zs.length = len ∧ (∀ i (h : i < zs.length), w.cell? (x.add i) = some (φ zs[i])) ∧ ∀ n ∈ zs, ok n

theorem isRow_of {α : Type} {H : Type} {enc : TypeId × Value → H} {P : Program} {w : World} {held : Bool} {t e : TypeId} {fuel : Nat} {a : Option Addr} {len cap : Nat} {y : DataW H × List MemPlace} (φ : α → Value) (ok : α → Prop) (d0 : α) (ht : P.underlying t = some (.slice e)) (hc : P.cellsOf e = 1)
    (h : DataW.trod enc P w 0 (fun _ => true) held fuel t (Value.slice a len cap).cells.toList = some y)
    (each : ∀ (n : Nat) (v : Value) (z : DataW H × List MemPlace), DataW.trod enc P w 0 (fun _ => true) held n e [v] = some z → ∃ u, v = φ u ∧ ok u) : ∃ zs, IsRow φ ok w a len cap zs := by
  rcases open_slice1 ht hc h with ⟨hcs, _⟩ | ⟨x, l, c, m, n, V, D, Pl, hcs, _, hl, hm, hmm, hy, hx⟩
  · simp [Value.cells] at hcs
    obtain ⟨rfl, rfl, rfl⟩ := hcs
    exact ⟨[], .inl ⟨rfl, rfl, rfl, rfl⟩⟩
  · simp [Value.cells] at hcs
    obtain ⟨rfl, rfl, rfl⟩ := hcs
    simp only [if_true] at hmm
    subst hmm
    have hex : ∀ i, ∃ u, i < len → V i = φ u ∧ ok u := by
      intro i
      by_cases hi : i < len
      · obtain ⟨u, h1, h2⟩ := each n (V i) _ (hx i (by omega)).2
        exact ⟨u, fun _ => ⟨h1, h2⟩⟩
      · exact ⟨d0, fun h => absurd h hi⟩
    refine ⟨(List.range len).map fun i => Classical.choose (hex i), .inr ⟨x, rfl, hl, hm, by simp, ?_, ?_⟩⟩
    · intro i hi
      simp at hi
      rw [(hx i (by omega)).1, (Classical.choose_spec (hex i) hi).1]
      simp
    · intro u hu
      simp at hu
      obtain ⟨i, hi, rfl⟩ := hu
      exact (Classical.choose_spec (hex i) hi).2

theorem block_lt {w : World} {a : Addr} {v : Value} (h : w.cell? a = some v) : a.block < w.heap.size := by
  rcases Nat.lt_or_ge a.block w.heap.size with hlt | hge
  · exact hlt
  · simp [World.cell?, Array.getElem?_eq_none hge] at h
theorem sl_of_row {α : Type} {φ : α → Value} {ok : α → Prop} {w : World} {a : Option Addr} {len cap : Nat} {zs : List α} (h : IsRow φ ok w a len cap zs) : Sl w w.heap.size a len (zs.map φ) ∧ (a = none → len = 0 ∧ cap = 0) := by
  rcases h with ⟨rfl, rfl, rfl, rfl⟩ | ⟨x, rfl, _, _, hl, hc, _⟩
  · exact ⟨Sl.empty, fun _ => ⟨rfl, rfl⟩⟩
  · refine ⟨⟨by simpa using hl, fun hn => ?_⟩, fun h => by cases h⟩
    have h0 := hc 0 (by omega)
    have hx : x.add 0 = x := by simp [Addr.add]
    rw [hx] at h0
    have hs := World.cell?_spot h0
    have hb := block_lt h0
    obtain ⟨b, off, sp⟩ := x
    simp at hs
    subst hs
    refine ⟨b, off, rfl, hb, fun j u hu => ?_⟩
    simp at hu
    obtain ⟨y, hy, rfl⟩ := hu
    have hj : j < zs.length := (List.getElem?_eq_some_iff.1 hy).1
    have := hc j hj
    rw [(List.getElem?_eq_some_iff.1 hy).2] at this
    rw [← this]
    unfold Addr.add
    split
    · rename_i h; simp [h]
    · rfl
theorem len_le {α : Type} {φ : α → Value} {ok : α → Prop} {w : World} {a : Option Addr} {len cap : Nat} {zs : List α} (h : IsRow φ ok w a len cap zs) : len ≤ 9223372036854775807 := by
  rcases h with ⟨rfl, rfl, rfl, rfl⟩ | ⟨x, rfl, h1, h2, _⟩
  · omega
  · unfold maxLen at h2; omega
theorem below_drewN {B : Nat} {w w' : World} (h : Below B w w') (q : Nat) : Below B w (w'.drewN q) := ⟨h.1, h.2, h.3, h.4, h.5⟩

def Byt (Q : Prop) (w : World) (e : Ending) (w' : World) : Prop := ∃ b, e = .returned (.bool b) ∧ w = w' ∧ (b = true → Q)
set_option maxRecDepth 100000 in
theorem bytes_any (A B C : Option Addr) (n m k c d f : Nat) (w : World) (h1 : n ≤ 9223372036854775807) (h2 : m ≤ 9223372036854775807) (h3 : k ≤ 9223372036854775807) :
    Calls Try.prog 13 #[.slice A n c, .slice B m d, .slice C k f] w (Byt (n + m + k ≤ big20) w) := by
  go_enter Try.func13, Try.ntmps13
  go_wp2_with fail
  all_goals (go_ret; exact ⟨_, rfl, rfl, fun h => by first | (unfold big20; omega) | cases h⟩)
def Made (w : World) (n : Nat) (us : List Int) (e : Ending) (w' : World) : Prop := ∃ A c, e = .returned (.slice A n c) ∧ Sl w' w'.heap.size A n (us.map (Value.int .u16)) ∧ Below w.heap.size w w'
theorem cloned_made (A : Option Addr) (n c : Nat) (us : List Int) (w : World) (hs : Sl w w.heap.size A n (us.map (Value.int .u16))) (hn : n ≤ big20) (hnil : A = none → n = 0 ∧ c = 0) :
    Calls Try.prog 7 #[.slice A n c] w (Made w n us) :=
  (clone_u16 A n c us w hs hn hnil).mono fun e w' h => by
    rcases h with ⟨rfl, h1, rfl⟩ | ⟨_, h1, rfl⟩
    · obtain ⟨rfl, rfl⟩ := hnil rfl
      exact ⟨_, _, h1, hs, Below.refl _ _⟩
    · have := Sl.new w 40 (us.map (Value.int .u16)) (w.alloc (.cells (us.map (Value.int .u16)).toArray 40)).heap.size (by simp)
      rw [hs.1] at this
      exact ⟨_, _, h1, this, (Below.refl _ _).alloc (Nat.le_refl _) _⟩
theorem zzcmp_any (A B : Option Addr) (n m c d : Nat) (us vs : List Int) (w : World) (hs : Sl w w.heap.size A n (us.map (Value.int .u16))) (ht : Sl w w.heap.size B m (vs.map (Value.int .u16))) (hu : ∀ x ∈ us, 0 ≤ x ∧ x ≤ 65535) (hv : ∀ x ∈ vs, 0 ≤ x ∧ x ≤ 65535) (hn : n ≤ big20) (hm : m ≤ big20) :
    Calls Try.prog 14 #[.slice A n c, .slice B m d] w fun e w' => e = .returned (.int .i64 (cmpL us vs)) ∧ ∃ q, w' = w.drewN q := by
  have J := Lib.hid (cmp_any A B n m c d us vs w hs ht hu hv hn hm)
  clear hu hv
  go_enter Try.func14, Try.ntmps14
  go_wp2_with fail
  refine J.out.mono ?_
  rintro e w1 ⟨rfl, q, rfl⟩
  go_wp2_with fail
  go_ret
  exact ⟨rfl, _, rfl⟩
def Blk (w : World) (g : Nat) (t : TypeId) (cs : Array Value) : Prop := w.heap[g]? = some (.cells cs t (0, 0))
theorem Blk.cell {w : World} {g : Nat} {t : TypeId} {cs : Array Value} (h : Blk w g t cs) (i : Nat) : w.cell? ⟨g, i, none⟩ = cs[i]? := by unfold Blk at h; simp [World.cell?, h]
theorem Blk.frozen {w : World} {g : Nat} {t : TypeId} {cs : Array Value} (h : Blk w g t cs) (i : Nat) : w.frozen? ⟨g, i, none⟩ = false := by unfold Blk at h; simp [World.frozen?, h]
theorem Blk.set_ {w : World} {g : Nat} {t : TypeId} {cs : Array Value} (h : Blk w g t cs) (i : Nat) (u : Value) : Blk (w.setCell ⟨g, i, none⟩ u) g t (cs.setIfInBounds i u) := by
  unfold Blk at h ⊢
  simp [World.setCell, Array.getElem?_modify, h]
theorem Blk.far {w : World} {g : Nat} {t : TypeId} {cs : Array Value} (h : Blk w g t cs) (b o : Nat) (u : Value) (hne : b ≠ g) : Blk (w.setCell ⟨b, o, none⟩ u) g t cs := by
  unfold Blk at h ⊢
  simp [World.setCell, Array.getElem?_modify, hne, h]
structure Two (w3 : World) (ca cb : Array Value) (wr : World) : Prop where
  ba : Blk wr w3.heap.size 40 ca
  bb : Blk wr (w3.heap.size + 1) 40 cb
  bl : Below w3.heap.size w3 wr
  sz : w3.heap.size + 1 < wr.heap.size
theorem info_c : (Try.prog.info? 40).map (fun i => (i.zero, i.size, i.bytes)) = some (some (.int .u16 0), 1, 2) := by kernel_rfl
abbrev Z : Value := .int .u16 0
theorem mid_some (z : Value) (zs : List Value) (n k i : Nat) (hl : zs.length = n) (hk : k ≤ n) (hi : i < n) : ∃ y, (mid z zs n k)[i]? = some y :=
  ⟨_, Array.getElem?_eq_getElem (by rw [size_mid z zs n k hl hk]; exact hi)⟩

set_option maxRecDepth 100000 in
set_option maxHeartbeats 4000000 in
theorem walk (a0 : Option Addr) (len0 cap0 : Nat) (z0 : List Int) (a1 : Option Addr) (len1 cap1 : Nat) (z1 : List Int) (a2 : Option Addr) (len2 cap2 : Nat) (z2 : List Int) (w : World) (w0 : IsRow (Value.int .u16) (fun n => (Lit.int .u16 n).wf = true) w a0 len0 cap0 z0) (w1 : IsRow (Value.int .u16) (fun n => (Lit.int .u16 n).wf = true) w a1 len1 cap1 z1) (w2 : IsRow (Value.int .u16) (fun n => (Lit.int .u16 n).wf = true) w a2 len2 cap2 z2) :
    Calls Try.prog 4 #[.slice a0 len0 cap0, .slice a1 len1 cap1, .slice a2 len2 cap2] w fun e w' => e = .returned (.bool true) ∧ Below w.heap.size w w' := by
  have r0 : ∀ x ∈ z0, 0 ≤ x ∧ x ≤ 65535 := by rcases w0 with ⟨_, _, _, rfl⟩ | ⟨_, _, _, _, _, _, h⟩; (· intro x hx; cases hx); (· exact fun x hx => bounds_u16 (h x hx))
  have r1 : ∀ x ∈ z1, 0 ≤ x ∧ x ≤ 65535 := by rcases w1 with ⟨_, _, _, rfl⟩ | ⟨_, _, _, _, _, _, h⟩; (· intro x hx; cases hx); (· exact fun x hx => bounds_u16 (h x hx))
  have r2 : ∀ x ∈ z2, 0 ≤ x ∧ x ≤ 65535 := by rcases w2 with ⟨_, _, _, rfl⟩ | ⟨_, _, _, _, _, _, h⟩; (· intro x hx; cases hx); (· exact fun x hx => bounds_u16 (h x hx))
  have R0 := Lib.hid r0
  have R1 := Lib.hid r1
  have R2 := Lib.hid r2
  clear r0 r1 r2
  have l0 := len_le w0
  have l1 := len_le w1
  have l2 := len_le w2
  obtain ⟨s0, n0⟩ := sl_of_row w0
  obtain ⟨s1, n1⟩ := sl_of_row w1
  obtain ⟨s2, n2⟩ := sl_of_row w2
  clear w0 w1 w2
  have N0 := Lib.hid n0
  have N1 := Lib.hid n1
  have N2 := Lib.hid n2
  clear n0 n1 n2
  go_enter Try.func4, Try.ntmps4
  go_wp2_with fail
  refine (bytes_any a0 a1 a2 len0 len1 len2 cap0 cap1 cap2 w l0 l1 l2).mono ?_
  rintro e w1 ⟨b, rfl, rfl, hq⟩
  cases b
  · go_wp2_with fail
    go_ret
    exact ⟨rfl, Below.refl _ _⟩
  have hq' := hq rfl
  clear hq
  have b0 : len0 ≤ big20 := by omega
  have b1 : len1 ≤ big20 := by omega
  have b2 : len2 ≤ big20 := by omega
  have b01 : len0 + len1 ≤ big20 := by omega
  have b02 : len0 + len2 ≤ big20 := by omega
  have m01 : len0 + len1 ≤ 9223372036854775807 := by have := big20_le b01; omega
  have m02 : len0 + len2 ≤ 9223372036854775807 := by have := big20_le b02; omega
  clear hq'
  go_wp2_with fail
  · go_ret; exact ⟨rfl, Below.refl _ _⟩
  · go_ret; exact ⟨rfl, Below.refl _ _⟩
  · go_ret; exact ⟨rfl, Below.refl _ _⟩
  refine (cloned_made a0 len0 cap0 z0 w s0 b0 N0.out).mono ?_
  rintro e w1 ⟨A, c, rfl, sA, hb1⟩
  go_wp2_with fail
  refine (cloned_made a1 len1 cap1 z1 w1 (s1.later hb1) b1 N1.out).mono ?_
  rintro e w2 ⟨B, d, rfl, sB, hb2⟩
  go_wp2_with fail
  refine (cloned_made a2 len2 cap2 z2 w2 (s2.later (hb1.trans (hb2.mono hb1.size))) b2 N2.out).mono ?_
  rintro e w3 ⟨C, f, rfl, sC, hb3⟩
  have sA3 := (sA.later hb2).later hb3
  have sB3 := sB.later hb3
  have bl3 := (hb1.trans (hb2.mono hb1.size)).trans (hb3.mono (Nat.le_trans hb1.size hb2.size))
  have BL3 := Lib.hid bl3
  have e0 : z0.length = len0 := by have := s0.1; simpa using this
  have e1 : z1.length = len1 := by have := s1.1; simpa using this
  have e2 : z2.length = len2 := by have := s2.1; simpa using this
  have ea : ((z0 ++ z1).map (Value.int .u16)).length = len0 + len1 := by simp [e0, e1]
  have eb : ((z0 ++ z2).map (Value.int .u16)).length = len0 + len2 := by simp [e0, e2]
  obtain ⟨i0, hi, hz0, hz1, hz2⟩ := info_three info_c
  have b01' := big20_le b01
  have b02' := big20_le b02
  have hm1 := run_make (P := Try.prog) w3 22 40 i0 Z Try.underlying22 hi hz0 .i64 .i64 (len0 + len1 : Int) (len0 + len1 : Int) (by omega) (by omega) (by rw [hz2]; omega) (by omega)
  have t1 : ((len0 : Int) + len1).toNat = len0 + len1 := by omega
  rw [hz1, Nat.mul_one, t1, mid_zero Z ((z0 ++ z1).map (Value.int .u16)) (len0 + len1) rfl] at hm1
  have hm2 := run_make (P := Try.prog) (w3.alloc (.cells (mid Z ((z0 ++ z1).map (Value.int .u16)) (len0 + len1) 0) 40)) 22 40 i0 Z Try.underlying22 hi hz0 .i64 .i64 (len0 + len2 : Int) (len0 + len2 : Int) (by omega) (by omega) (by rw [hz2]; omega) (by omega)
  have t2 : ((len0 : Int) + len2).toNat = len0 + len2 := by omega
  rw [hz1, Nat.mul_one, t2, mid_zero Z ((z0 ++ z2).map (Value.int .u16)) (len0 + len2) rfl] at hm2
  have hsz : (w3.alloc (.cells (mid Z ((z0 ++ z1).map (Value.int .u16)) (len0 + len1) 0) 40)).heap.size = w3.heap.size + 1 := by simp
  rw [hsz] at hm2
  have E0 := Lib.hid e0
  have E1 := Lib.hid e1
  have E2 := Lib.hid e2
  have EA := Lib.hid ea
  have EB := Lib.hid eb
  clear hi hz0 hz1 hz2 t1 t2 hsz b01' b02' e0 e1 e2 ea eb s0 s1 s2 sA sB hb1 hb2 hb3 bl3
  generalize hMA : mid Z ((z0 ++ z1).map (Value.int .u16)) (len0 + len1) 0 = MA at hm1 hm2
  generalize hMB : mid Z ((z0 ++ z2).map (Value.int .u16)) (len0 + len2) 0 = MB at hm2
  have HMA := Lib.hid hMA
  have HMB := Lib.hid hMB
  clear hMA hMB
  go_wp2_with fail
  clear hm1 hm2
  go_loopw [9] (fun i wr => ∃ k : Nat, k ≤ len0 ∧ i = .int .i64 k ∧ Two w3 (mid Z ((z0 ++ z1).map (Value.int .u16)) (len0 + len1) k) (mid Z ((z0 ++ z2).map (Value.int .u16)) (len0 + len2) k) wr) (fun i _ => len0 - (intOf i).toNat)
  case atStart =>
    refine ⟨0, by omega, rfl, ?_⟩
    rw [HMA.out, HMB.out]
    refine ⟨?_, ?_, ((Below.refl _ _).alloc (Nat.le_refl _) _).alloc (by simp) _, by simp⟩
    · exact (Below.heap_alloc _ _ _ (by simp)).trans (heap_alloc_new w3 _)
    · have h := heap_alloc_new (w3.alloc (.cells MA 40)) (.cells MB 40)
      rw [show (w3.alloc (.cells MA 40)).heap.size = w3.heap.size + 1 by simp] at h
      exact h
  case round =>
    obtain ⟨k, hk, rfl, hT⟩ := hrel
    have T := Lib.hid hT
    have sz := hT.sz
    clear hT
    by_cases hlt : k < len0
    · obtain ⟨b1, o1, u1, rfl, hb1, hu1, hc1⟩ := sA3.at_ hlt
      obtain ⟨x, hx, rfl⟩ : ∃ x, z0[k]? = some x ∧ Value.int .u16 x = u1 := by simpa using hu1
      have v1 : ((z0 ++ z1).map (Value.int .u16))[k]? = some (.int .u16 x) := by rw [List.getElem?_map, List.getElem?_append_left (by rw [E0.out]; exact hlt), hx]; rfl
      have v2 : ((z0 ++ z2).map (Value.int .u16))[k]? = some (.int .u16 x) := by rw [List.getElem?_map, List.getElem?_append_left (by rw [E0.out]; exact hlt), hx]; rfl
      have S1 := Lib.hid (mid_set Z (.int .u16 x) _ (len0 + len1) k EA.out (by omega) v1)
      have S2 := Lib.hid (mid_set Z (.int .u16 x) _ (len0 + len2) k EB.out (by omega) v2)
      obtain ⟨y1, hy1⟩ := mid_some Z _ (len0 + len1) k k EA.out (by omega) (by omega)
      obtain ⟨y2, hy2⟩ := mid_some Z _ (len0 + len2) k k EB.out (by omega) (by omega)
      have c1 : wr.cell? ⟨w3.heap.size, k, none⟩ = some y1 := by rw [T.out.ba.cell k]; exact hy1
      have c2 : wr.cell? ⟨w3.heap.size + 1, k, none⟩ = some y2 := by rw [T.out.bb.cell k]; exact hy2
      have f1 : wr.frozen? ⟨w3.heap.size, k, none⟩ = false := T.out.ba.frozen k
      have f2 : wr.frozen? ⟨w3.heap.size + 1, k, none⟩ = false := T.out.bb.frozen k
      have g1 : wr.cell? ⟨b1, o1 + k, none⟩ = some (.int .u16 x) := by rw [(bcell T.out.bl).1 _ _ hb1]; exact hc1
      have ne1 : ¬ w3.heap.size = b1 := by omega
      have ne2 : ¬ b1 = w3.heap.size := by omega
      have l3' : ((k : Nat) : Int) < len0 + len1 := by omega
      have l4' : ((k : Nat) : Int) < len0 + len2 := by omega
      clear hx hu1 v1 v2 hy1 hy2 hc1
      go_wp2_with fail
      go_roundw
      case rel =>
        refine ⟨k + 1, by omega, by go_num, ?_⟩
        rw [← S1.out, ← S2.out]
        exact ⟨(T.out.ba.set_ k _).far _ _ _ (by omega), (T.out.bb.far _ _ _ (by omega)).set_ k _, (T.out.bl.setCell (by simp) _).setCell (by simp) _, by simp; omega⟩
      case measure => simp [intOf]; omega
    · obtain rfl : k = len0 := by omega
      go_wp2_with fail
      go_loopw [10] (fun i wr => ∃ j : Nat, j ≤ len1 ∧ i = .int .i64 j ∧ Two w3 (mid Z ((z0 ++ z1).map (Value.int .u16)) (k + len1) (k + j)) (mid Z ((z0 ++ z2).map (Value.int .u16)) (k + len2) k) wr) (fun i _ => len1 - (intOf i).toNat)
      case atStart => exact ⟨0, by omega, rfl, T.out⟩
      case round =>
        obtain ⟨j, hj, rfl, hT⟩ := hrel
        have T2 := Lib.hid hT
        have sz2 := hT.sz
        clear hT
        by_cases hltj : j < len1
        · obtain ⟨b1, o1, u1, rfl, hb1, hu1, hc1⟩ := sB3.at_ hltj
          obtain ⟨x, hx, rfl⟩ : ∃ x, z1[j]? = some x ∧ Value.int .u16 x = u1 := by simpa using hu1
          have v1 : ((z0 ++ z1).map (Value.int .u16))[k + j]? = some (.int .u16 x) := by rw [List.getElem?_map, List.getElem?_append_right (by rw [E0.out]; omega), E0.out, Nat.add_sub_cancel_left, hx]; rfl
          have S1 := Lib.hid (mid_set Z (.int .u16 x) _ (k + len1) (k + j) EA.out (by omega) v1)
          obtain ⟨y1, hy1⟩ := mid_some Z _ (k + len1) (k + j) (k + j) EA.out (by omega) (by omega)
          have c1 : wr.cell? ⟨w3.heap.size, k + j, none⟩ = some y1 := by rw [T2.out.ba.cell (k + j)]; exact hy1
          have f1 : wr.frozen? ⟨w3.heap.size, k + j, none⟩ = false := T2.out.ba.frozen (k + j)
          have g1 : wr.cell? ⟨b1, o1 + j, none⟩ = some (.int .u16 x) := by rw [(bcell T2.out.bl).1 _ _ hb1]; exact hc1
          have ne1 : ¬ w3.heap.size = b1 := by omega
          have ne2 : ¬ b1 = w3.heap.size := by omega
          have l3' : (k : Int) + ((j : Nat) : Int) < k + len1 := by omega
          have l5' : (0 : Int) ≤ (k : Int) + ((j : Nat) : Int) := by omega
          have l6' : ((j : Nat) : Int) < len1 := by omega
          clear hx hu1 v1 hy1 hc1
          go_wp2_with fail
          go_roundw
          case rel =>
            refine ⟨j + 1, by omega, by go_num, ?_⟩
            rw [← Nat.add_assoc, ← S1.out]
            exact ⟨T2.out.ba.set_ _ _, T2.out.bb.far _ _ _ (by omega), T2.out.bl.setCell (by simp) _, by simp; omega⟩
          case measure => simp [intOf]; omega
        · obtain rfl : j = len1 := by omega
          go_wp2_with fail
          go_loopw [11] (fun i wr => ∃ m : Nat, m ≤ len2 ∧ i = .int .i64 m ∧ Two w3 (mid Z ((z0 ++ z1).map (Value.int .u16)) (k + j) (k + j)) (mid Z ((z0 ++ z2).map (Value.int .u16)) (k + len2) (k + m)) wr) (fun i _ => len2 - (intOf i).toNat)
          case atStart => exact ⟨0, by omega, rfl, T2.out⟩
          case round =>
            obtain ⟨m, hm, rfl, hT⟩ := hrel
            have T3 := Lib.hid hT
            have sz3 := hT.sz
            clear hT
            by_cases hltm : m < len2
            · obtain ⟨b1, o1, u1, rfl, hb1, hu1, hc1⟩ := sC.at_ hltm
              obtain ⟨x, hx, rfl⟩ : ∃ x, z2[m]? = some x ∧ Value.int .u16 x = u1 := by simpa using hu1
              have v1 : ((z0 ++ z2).map (Value.int .u16))[k + m]? = some (.int .u16 x) := by rw [List.getElem?_map, List.getElem?_append_right (by rw [E0.out]; omega), E0.out, Nat.add_sub_cancel_left, hx]; rfl
              have S1 := Lib.hid (mid_set Z (.int .u16 x) _ (k + len2) (k + m) EB.out (by omega) v1)
              obtain ⟨y1, hy1⟩ := mid_some Z _ (k + len2) (k + m) (k + m) EB.out (by omega) (by omega)
              have c1 : wr.cell? ⟨w3.heap.size + 1, k + m, none⟩ = some y1 := by rw [T3.out.bb.cell (k + m)]; exact hy1
              have f1 : wr.frozen? ⟨w3.heap.size + 1, k + m, none⟩ = false := T3.out.bb.frozen (k + m)
              have g1 : wr.cell? ⟨b1, o1 + m, none⟩ = some (.int .u16 x) := by rw [(bcell T3.out.bl).1 _ _ hb1]; exact hc1
              have ne1 : ¬ w3.heap.size + 1 = b1 := by omega
              have ne2 : ¬ b1 = w3.heap.size + 1 := by omega
              have l3' : (k : Int) + ((m : Nat) : Int) < k + len2 := by omega
              have l5' : (0 : Int) ≤ (k : Int) + ((m : Nat) : Int) := by omega
              have l6' : ((m : Nat) : Int) < len2 := by omega
              clear hx hu1 v1 hy1 hc1
              go_wp2_with fail
              go_roundw
              case rel =>
                refine ⟨m + 1, by omega, by go_num, ?_⟩
                rw [← Nat.add_assoc, ← S1.out]
                exact ⟨T3.out.ba.far _ _ _ (by omega), T3.out.bb.set_ _ _, T3.out.bl.setCell (by simp) _, by simp; omega⟩
              case measure => simp [intOf]; omega
            · obtain rfl : m = len2 := by omega
              have QA : Sl wr wr.heap.size (some ⟨w3.heap.size, 0, none⟩) (k + j) ((z0 ++ z1).map (Value.int .u16)) := by
                refine ⟨EA.out, fun _ => ⟨_, _, rfl, by omega, fun i u hu => ?_⟩⟩
                rw [Nat.zero_add, T3.out.ba.cell i, mid_end Z _ _ EA.out]
                simpa using hu
              have QB : Sl wr wr.heap.size (some ⟨w3.heap.size + 1, 0, none⟩) (k + m) ((z0 ++ z2).map (Value.int .u16)) := by
                refine ⟨EB.out, fun _ => ⟨_, _, rfl, by omega, fun i u hu => ?_⟩⟩
                rw [Nat.zero_add, T3.out.bb.cell i, mid_end Z _ _ EB.out]
                simpa using hu
              have zz : w3.heap.size ≤ wr.heap.size := by omega
              have sB4 : Sl wr wr.heap.size B j (z1.map (Value.int .u16)) := (sB3.below T3.out.bl).more zz
              have sC4 : Sl wr wr.heap.size C m (z2.map (Value.int .u16)) := (sC.below T3.out.bl).more zz
              have ra : ∀ x ∈ z0 ++ z1, 0 ≤ x ∧ x ≤ 65535 := fun x hx => by rcases List.mem_append.1 hx with h | h; exact R0.out x h; exact R1.out x h
              have rb : ∀ x ∈ z0 ++ z2, 0 ≤ x ∧ x ≤ 65535 := fun x hx => by rcases List.mem_append.1 hx with h | h; exact R0.out x h; exact R2.out x h
              have J := zzcmp_any _ _ (k + j) (k + m) (k + j) (k + m) (z0 ++ z1) (z0 ++ z2) wr QA QB ra rb b01 b02
              rw [cmpL_pre] at J
              have J1 := Lib.hid J
              have J2 := Lib.hid (fun q => zzcmp_any B C j m d f z1 z2 (wr.drewN q) sB4 sC4 R1.out R2.out b1 b2)
              clear J ra rb QA QB sB4 sC4
              go_wp2_with fail
              refine J1.out.mono ?_
              rintro e w5 ⟨rfl, q5, rfl⟩
              go_wp2_with fail
              refine (J2.out q5).mono ?_
              rintro e w6 ⟨rfl, q6, rfl⟩
              go_wp2_with fail
              go_ret
              exact ⟨ret_true (by simp), by repeat (first | apply below_drewN | exact BL3.out.trans (T3.out.bl.mono BL3.out.size))⟩

/-! ### THE ROW's STEP: WRITTEN OUT: LEAVE IT -/
set_option maxRecDepth 100000 in
theorem lifted (os : Os) (started : os.Started) (H : Type) (enc : TypeId × Value → H) :
    ReturnsInHanded {} Try.checked os 4 .any (Rows.fnStringCompareUCS2PrefixInvariantSpec.pre6 enc Try.prog Try.f4 Rows.fnStringCompareUCS2PrefixInvariantRow.domain false) (Rows.fnStringCompareUCS2PrefixInvariantSpec.post enc Try.prog Try.f4 false true false false) := by
  refine returnsInHanded_of_change (C := Try.checked) own started (by kernel_rfl) Try.func4
    (ChangeSpec.witness6 (enc := enc) (C := Try.checked) false ⟨#[], #[.slice none 0 0, .slice none 0 0, .slice none 0 0], []⟩ 8 (by kernel_rfl) (by kernel_rfl) (by kernel_rfl) (by kernel_rfl)) ?_
  intro W base args ds gs before hval0 hW hcnd _
  have hval : ∀ (j : Nat) t v, Try.f4.params[j]? = some t → args[j]? = some v → Value.okWide Try.prog W .any base t v := hval0
  have hW' := hW
  obtain ⟨p, q, hA0, hV, rfl, hfz, hnd⟩ := hW
  have hA : DataW.TrodAll enc Try.prog W 0 (fun _ => true) true Try.f4.params.toList args.toList ds p := hA0
  rw [Try.params4] at hA hval
  obtain ⟨v0, vs0, d0, ds0, p0, q0, hargs, rfl, rfl, h0, r0⟩ := trodAll_cons hA
  obtain ⟨v1, vs1, d1, ds1, p1, q1, rfl, rfl, rfl, h1, r1⟩ := trodAll_cons r0
  obtain ⟨v2, vs2, d2, ds2, p2, q2, rfl, rfl, rfl, h2, r2⟩ := trodAll_cons r1
  obtain ⟨rfl, rfl, rfl⟩ := trodAll_nil r2
  obtain rfl : args = #[v0, v1, v2] := by cases args; simp_all
  obtain ⟨rfl, rfl⟩ := trodVars_none hV
  obtain ⟨a0, len0, cap0, rfl⟩ := okWide_slice Try.underlying22 (hval 0 22 v0 rfl rfl)
  have k0 := h0
  have lt0 : ∀ x ∈ p0, x.block < W.heap.size := by obtain ⟨m, hm⟩ := k0; exact DataW.trod_lt m _ _ _ hm
  obtain ⟨z0, w0⟩ : ∃ zs, IsRow (Value.int .u16) (fun n => (Lit.int .u16 n).wf = true) W a0 len0 cap0 zs := by
    obtain ⟨fuel, hf⟩ := h0
    exact isRow_of (Value.int .u16) (fun n => (Lit.int .u16 n).wf = true) 0 Try.underlying22 (by kernel_rfl) hf (fun n v z hz => by obtain ⟨u, h1, _, h3⟩ := DataW.trod_int Try.underlying40 hz; exact ⟨u, by simpa using h1, h3⟩)
  obtain ⟨a1, len1, cap1, rfl⟩ := okWide_slice Try.underlying22 (hval 1 22 v1 rfl rfl)
  have k1 := h1
  have lt1 : ∀ x ∈ p1, x.block < W.heap.size := by obtain ⟨m, hm⟩ := k1; exact DataW.trod_lt m _ _ _ hm
  obtain ⟨z1, w1⟩ : ∃ zs, IsRow (Value.int .u16) (fun n => (Lit.int .u16 n).wf = true) W a1 len1 cap1 zs := by
    obtain ⟨fuel, hf⟩ := h1
    exact isRow_of (Value.int .u16) (fun n => (Lit.int .u16 n).wf = true) 0 Try.underlying22 (by kernel_rfl) hf (fun n v z hz => by obtain ⟨u, h1, _, h3⟩ := DataW.trod_int Try.underlying40 hz; exact ⟨u, by simpa using h1, h3⟩)
  obtain ⟨a2, len2, cap2, rfl⟩ := okWide_slice Try.underlying22 (hval 2 22 v2 rfl rfl)
  have k2 := h2
  have lt2 : ∀ x ∈ p2, x.block < W.heap.size := by obtain ⟨m, hm⟩ := k2; exact DataW.trod_lt m _ _ _ hm
  obtain ⟨z2, w2⟩ : ∃ zs, IsRow (Value.int .u16) (fun n => (Lit.int .u16 n).wf = true) W a2 len2 cap2 zs := by
    obtain ⟨fuel, hf⟩ := h2
    exact isRow_of (Value.int .u16) (fun n => (Lit.int .u16 n).wf = true) 0 Try.underlying22 (by kernel_rfl) hf (fun n v z hz => by obtain ⟨u, h1, _, h3⟩ := DataW.trod_int Try.underlying40 hz; exact ⟨u, by simpa using h1, h3⟩)
  clear hA0 hval0
  refine (walk a0 len0 cap0 z0 a1 len1 cap1 z1 a2 len2 cap2 z2 W w0 w1 w2).mono fun e W' ⟨he, bel⟩ => ?_
  subst he
  exact ⟨_, rfl, _, _, _, [], _, [], hW', trodAll_mk1 (shut_bool Try.underlying4 _), (trodAll_cons_mk (Below.trod laidOut (by kernel_rfl) (of_decide_eq_true (by kernel_rfl)) k0 bel lt0) (trodAll_cons_mk (Below.trod laidOut (by kernel_rfl) (of_decide_eq_true (by kernel_rfl)) k1 bel lt1) (trodAll_cons_mk (Below.trod laidOut (by kernel_rfl) (of_decide_eq_true (by kernel_rfl)) k2 bel lt2) trodAll_mk0))), rfl, bel.frame _, fun h => by cases h⟩

theorem over : Rows.fnStringCompareUCS2PrefixInvariantRow.holds Try.pinned (OpenSpec.ofChange Rows.fnStringCompareUCS2PrefixInvariantSpec) :=
  OpenClaim.holds_of_wide 4 Try.f4 rfl rfl rfl rfl rfl rfl rfl ⟨rfl, rfl, rfl, rfl, rfl⟩ rfl rfl rfl rfl rfl (by kernel_rfl) Try.func4 (by kernel_rfl)
    (of_decide_eq_true (by kernel_rfl)) (by unfold Func.isWrapper; first | (rw [if_pos (by decide +kernel)]; kernel_rfl) | (rw [if_neg (by decide +kernel)]; exact ⟨rfl, rfl⟩))
    (fun os started H enc _ => lifted os started H enc)

/-- THE STATEMENT -/
theorem proved : Rows.FnStringCompareUCS2PrefixInvariantSaid := over
#print axioms proved
end Go.Proofs.Ythcjcafillcikab.fnStringCompareUCS2PrefixInvariant
