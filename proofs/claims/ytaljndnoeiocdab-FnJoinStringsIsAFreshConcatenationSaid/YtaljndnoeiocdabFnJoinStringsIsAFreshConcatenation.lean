/-
  For every two slices of uint16 the law FnJoinStringsIsAFreshConcatenation returns true and leaves its arguments as they were; no condition.
  The frame of this text was written by the kit's program proof-skeleton.mjs for this statement; the walk and its lemmas are the prover's.
-/
import Derived.Test.YtaljndnoeiocdabRows
import Derived.WalkKit
import Derived.ProofKit
import Derived.OpenShut
import Derived.Test.YtaljndnoeiocdabCl16
import Derived.Test.YtaljndnoeiocdabEq16
import Derived.Test.YtaljndnoeiocdabJoin
import Derived.DataReads
import Derived.Deep.QuietTactic
import Derived.BigQuiet
import Derived.IntWalk
import Derived.ShutString
import Derived.ChangeOld
import Derived.Below
import Derived.WalkLawsBesides
import Derived.Deep.Slices
namespace Go.Proofs.Ytaljndnoeiocdab.fnJoinStringsIsAFreshConcatenation
open Go.ChangeShapes Go.WideShapes Go.ChangeAt Go.RowKit
open Go.ChangeMaps (open_string shut_string)
open Go.Deep (open_slice1)
set_option linter.unusedVariables false

theorem own : ownKnob Try.prog.godebug = none := by kernel_rfl
theorem laidOut : laidOutB Try.prog = true := by kernel_rfl

def IsRow {α : Type} (φ : α → Value) (ok : α → Prop) (w : World) (a : Option Addr) (len cap : Nat) (zs : List α) : Prop :=
  (a = none ∧ len = 0 ∧ cap = 0 ∧ zs = []) ∨
  ∃ x, a = some x ∧ len ≤ cap ∧ cap ≤ maxLen ∧ zs.length = len ∧ (∀ i (h : i < zs.length), w.cell? (x.add i) = some (φ zs[i])) ∧ ∀ n ∈ zs, ok n

theorem isRow_of {α : Type} {H : Type} {enc : TypeId × Value → H} {P : Program} {w : World} {held : Bool} {t e : TypeId} {fuel : Nat} {a : Option Addr} {len cap : Nat} {y : DataW H × List MemPlace} (φ : α → Value) (ok : α → Prop) (d0 : α) (ht : P.underlying t = some (.slice e)) (hc : P.cellsOf e = 1)
    (h : DataW.trod enc P w 0 (fun _ => true) held fuel t (Value.slice a len cap).cells.toList = some y)
    (each : ∀ (n : Nat) (v : Value) (z : DataW H × List MemPlace), DataW.trod enc P w 0 (fun _ => true) held n e [v] = some z → ∃ u, v = φ u ∧ ok u) : ∃ zs, IsRow φ ok w a len cap zs := by
  rcases open_slice1 ht hc h with ⟨hcs, _⟩ | ⟨x, l, c, m, n, V, D, Pl, hcs, _, hl, hm, hmm, hy, hx⟩
  · simp [Value.cells] at hcs
    obtain ⟨rfl, rfl, rfl⟩ := hcs
    exact ⟨[], .inl ⟨rfl, rfl, rfl, rfl⟩⟩
  · simp [Value.cells] at hcs
    obtain ⟨rfl, rfl, rfl⟩ := hcs
    simp only [if_true] at hmm
    subst hmm
    have hex : ∀ i, ∃ u, i < len → V i = φ u ∧ ok u := by
      intro i
      by_cases hi : i < len
      · obtain ⟨u, h1, h2⟩ := each n (V i) _ (hx i (by omega)).2
        exact ⟨u, fun _ => ⟨h1, h2⟩⟩
      · exact ⟨d0, fun h => absurd h hi⟩
    refine ⟨(List.range len).map fun i => Classical.choose (hex i), .inr ⟨x, rfl, hl, hm, by simp, ?_, ?_⟩⟩
    · intro i hi
      simp at hi
      rw [(hx i (by omega)).1, (Classical.choose_spec (hex i) hi).1]
      simp
    · intro u hu
      simp at hu
      obtain ⟨i, hi, rfl⟩ := hu
      exact (Classical.choose_spec (hex i) hi).2

theorem block_lt {w : World} {a : Addr} {v : Value} (h : w.cell? a = some v) : a.block < w.heap.size := by
  rcases Nat.lt_or_ge a.block w.heap.size with hlt | hge
  · exact hlt
  · simp [World.cell?, Array.getElem?_eq_none hge] at h
theorem sl_of_row {α : Type} {φ : α → Value} {ok : α → Prop} {w : World} {a : Option Addr} {len cap : Nat} {zs : List α} (h : IsRow φ ok w a len cap zs) : Sl w w.heap.size a len (zs.map φ) ∧ (a = none → len = 0 ∧ cap = 0) := by
  rcases h with ⟨rfl, rfl, rfl, rfl⟩ | ⟨x, rfl, _, _, hl, hc, _⟩
  · exact ⟨Sl.empty, fun _ => ⟨rfl, rfl⟩⟩
  · refine ⟨⟨by simpa using hl, fun hn => ?_⟩, fun h => by cases h⟩
    have h0 := hc 0 (by omega)
    have hx : x.add 0 = x := by simp [Addr.add]
    rw [hx] at h0
    have hs := World.cell?_spot h0
    have hb := block_lt h0
    obtain ⟨b, off, sp⟩ := x
    simp at hs
    subst hs
    refine ⟨b, off, rfl, hb, fun j u hu => ?_⟩
    simp at hu
    obtain ⟨y, hy, rfl⟩ := hu
    have hj : j < zs.length := (List.getElem?_eq_some_iff.1 hy).1
    have := hc j hj
    rw [(List.getElem?_eq_some_iff.1 hy).2] at this
    rw [← this]
    unfold Addr.add
    split
    · rename_i h; simp [h]
    · rfl
def Byt (Q : Prop) (w : World) (e : Ending) (w' : World) : Prop := ∃ b, e = .returned (.bool b) ∧ w = w' ∧ (b = true → Q)
set_option maxRecDepth 100000 in
theorem bytes_any (A B : Option Addr) (n m c d : Nat) (w : World) (h1 : n ≤ 9223372036854775807) (h2 : m ≤ 9223372036854775807) :
    Calls Try.prog 12 #[.slice A n c, .slice B m d] w (Byt (n + m ≤ big20) w) := by
  go_enter Try.func12, Try.ntmps12
  go_wp2_with fail
  all_goals (go_ret; exact ⟨_, rfl, rfl, fun h => by first | (unfold big20; omega) | cases h⟩)
theorem cloned_made (A : Option Addr) (n c : Nat) (us : List Int) (w : World) (hs : Sl w w.heap.size A n (us.map (Value.int .u16))) (hn : n ≤ big20) (hnil : A = none → n = 0 ∧ c = 0) :
    Calls Try.prog 9 #[.slice A n c] w (Made w n us) :=
  (clone_u16 A n c us w hs hn hnil).mono fun e w' h => by
    rcases h with ⟨rfl, h1, rfl⟩ | ⟨_, h1, rfl⟩
    · obtain ⟨rfl, rfl⟩ := hnil rfl
      exact ⟨_, _, h1, hs, Below.refl _ _⟩
    · have := Sl.new w 43 (us.map (Value.int .u16)) (w.alloc (.cells (us.map (Value.int .u16)).toArray 43)).heap.size (by simp)
      rw [hs.1] at this
      exact ⟨_, _, h1, this, (Below.refl _ _).alloc (Nat.le_refl _) _⟩
theorem len_le {α : Type} {φ : α → Value} {ok : α → Prop} {w : World} {a : Option Addr} {len cap : Nat} {zs : List α} (h : IsRow φ ok w a len cap zs) : len ≤ 9223372036854775807 := by
  rcases h with ⟨rfl, rfl, rfl, rfl⟩ | ⟨x, rfl, h1, h2, _⟩
  · omega
  · unfold maxLen at h2; omega
theorem below_drewN {B : Nat} {w w' : World} (h : Below B w w') (q : Nat) : Below B w (w'.drewN q) := ⟨h.1, h.2, h.3, h.4, h.5⟩
def Blk (w : World) (g : Nat) (t : TypeId) (cs : Array Value) : Prop := w.heap[g]? = some (.cells cs t (0, 0))
theorem Blk.cell {w : World} {g : Nat} {t : TypeId} {cs : Array Value} (h : Blk w g t cs) (i : Nat) : w.cell? ⟨g, i, none⟩ = cs[i]? := by unfold Blk at h; simp [World.cell?, h]
theorem Blk.frozen {w : World} {g : Nat} {t : TypeId} {cs : Array Value} (h : Blk w g t cs) (i : Nat) : w.frozen? ⟨g, i, none⟩ = false := by unfold Blk at h; simp [World.frozen?, h]
theorem Blk.set_ {w : World} {g : Nat} {t : TypeId} {cs : Array Value} (h : Blk w g t cs) (i : Nat) (u : Value) : Blk (w.setCell ⟨g, i, none⟩ u) g t (cs.setIfInBounds i u) := by
  unfold Blk at h ⊢
  simp [World.setCell, Array.getElem?_modify, h]
structure Ints (w : World) (R : Nat) (n : Nat) (wr : World) : Prop where
  ex : ∃ cs : Array Value, Blk wr R 43 cs ∧ cs.size = n ∧ ∀ i, i < n → ∃ x : Int, cs[i]? = some (.int .u16 x)
  bl : Below R w wr

set_option maxRecDepth 100000 in
set_option maxHeartbeats 4000000 in
theorem walk (a0 : Option Addr) (len0 cap0 : Nat) (z0 : List Int) (a1 : Option Addr) (len1 cap1 : Nat) (z1 : List Int) (w : World) (w0 : IsRow (Value.int .u16) (fun n => (Lit.int .u16 n).wf = true) w a0 len0 cap0 z0) (w1 : IsRow (Value.int .u16) (fun n => (Lit.int .u16 n).wf = true) w a1 len1 cap1 z1) :
    Calls Try.prog 5 #[.slice a0 len0 cap0, .slice a1 len1 cap1] w fun e w' => e = .returned (.bool true) ∧ Below w.heap.size w w' := by
  have l0 := len_le w0
  have l1 := len_le w1
  obtain ⟨s0, n0⟩ := sl_of_row w0
  obtain ⟨s1, n1⟩ := sl_of_row w1
  clear w0 w1
  have N0 := Lib.hid n0
  have N1 := Lib.hid n1
  clear n0 n1
  go_enter Try.func5, Try.ntmps5
  go_wp2_with fail
  refine (bytes_any a0 a1 len0 len1 cap0 cap1 w l0 l1).mono ?_
  rintro e w1 ⟨b, rfl, rfl, hq⟩
  cases b
  · go_wp2_with fail
    go_ret
    exact ⟨rfl, Below.refl _ _⟩
  have hq' := hq rfl
  clear hq
  have b0 : len0 ≤ big20 := by omega
  have b1 : len1 ≤ big20 := by omega
  have l01 : len0 + len1 ≤ 9223372036854775807 := by have := big20_le hq'; omega
  clear hq'
  go_wp2_with fail
  · go_ret
    exact ⟨rfl, Below.refl _ _⟩
  refine (cloned_made a0 len0 cap0 z0 w s0 b0 N0.out).mono ?_
  rintro e w1 ⟨A, c, rfl, sA, hb1⟩
  go_wp2_with fail
  refine (cloned_made a1 len1 cap1 z1 w1 (s1.later hb1) b1 N1.out).mono ?_
  rintro e w2 ⟨B, d, rfl, sB, hb2⟩
  have sA2 := sA.later hb2
  have bl2 := hb1.trans (hb2.mono hb1.size)
  have s02 := s0.below bl2
  have s12 := s1.below bl2
  have z2 : w.heap.size ≤ w2.heap.size := bl2.size
  have e0 : z0.length = len0 := by have := s0.1; simpa using this
  have e1 : z1.length = len1 := by have := s1.1; simpa using this
  have E0 := Lib.hid e0
  have E1 := Lib.hid e1
  have BL2 := Lib.hid bl2
  clear s0 s1 sA hb1 hb2 e0 e1 bl2
  go_wp2_with fail
  refine (zzjoin_any A B len0 len1 c d z0 z1 w2 sA2 sB b0 b1).mono ?_
  rintro e w3 ⟨rfl, hw3⟩
  have b3 : Below w2.heap.size w2 w3 := by rw [hw3]; exact (Below.refl _ _).alloc (Nat.le_refl _) _
  have k3 : Blk w3 w2.heap.size 43 ((z0 ++ z1).map (Value.int .u16)).toArray := by rw [hw3]; exact heap_alloc_new w2 _
  have z3 : w2.heap.size < w3.heap.size := by rw [hw3]; simp
  clear hw3
  have K3 := Lib.hid k3
  have B3 := Lib.hid b3
  have sA3 := sA2.below b3
  have sB3 := sB.below b3
  have s03 := s02.below (B3.out.mono z2)
  have s13 := s12.below (B3.out.mono z2)
  clear k3 b3 sA2 sB s02 s12
  go_wp2_with fail
  go_loopw [8] (fun i wr => ∃ k q : Nat, k ≤ len0 ∧ i = .int .i64 k ∧ wr = w3.drewN q) (fun i _ => len0 - (intOf i).toNat)
  case atStart => exact ⟨0, 0, by omega, rfl, rfl⟩
  case round =>
    obtain ⟨k, q, hk, rfl, rfl⟩ := hrel
    by_cases hlt : k < len0
    · obtain ⟨b1, o1, u1, rfl, _, hu1, hc1⟩ := sA3.at_ hlt
      obtain ⟨x, hx, rfl⟩ : ∃ x, z0[k]? = some x ∧ Value.int .u16 x = u1 := by simpa using hu1
      have hr : w3.cell? ⟨w2.heap.size, k, none⟩ = some (.int .u16 x) := by
        rw [K3.out.cell k]; simp; rw [List.getElem?_append_left (by simp; rw [E0.out]; exact hlt)]; simp [hx]
      clear hx hu1
      have g1 : (w3.drewN q).cell? ⟨b1, o1 + k, none⟩ = some (.int .u16 x) := hc1
      have g2 : (w3.drewN q).cell? ⟨w2.heap.size, k, none⟩ = some (.int .u16 x) := hr
      have g3 : (x != x) = false := by simp
      have l1' : ((k : Nat) : Int) < len0 := by omega
      have l2' : ((k : Nat) : Int) < len0 + len1 := by omega
      have l3' : (0 : Int) ≤ ((k : Nat) : Int) := by omega
      have l4' : k < len0 + len1 := by omega
      go_wp2_with fail
      go_quiet (fail)
      go_wp2_with fail
      go_roundw
      case rel => exact ⟨k + 1, _, by omega, by go_num, rfl⟩
      case measure => simp [intOf]; omega
    · go_wp2_with fail
      go_loopw [9] (fun i wr => ∃ k q : Nat, k ≤ len1 ∧ i = .int .i64 k ∧ wr = w3.drewN q) (fun i _ => len1 - (intOf i).toNat)
      case atStart => exact ⟨0, q, by omega, rfl, rfl⟩
      case round =>
        obtain ⟨k2, q2, hk2, rfl, rfl⟩ := hrel
        by_cases hlt2 : k2 < len1
        · obtain ⟨b1, o1, u1, rfl, _, hu1, hc1⟩ := sB3.at_ hlt2
          obtain ⟨x, hx, rfl⟩ : ∃ x, z1[k2]? = some x ∧ Value.int .u16 x = u1 := by simpa using hu1
          have hr : w3.cell? ⟨w2.heap.size, len0 + k2, none⟩ = some (.int .u16 x) := by
            rw [K3.out.cell (len0 + k2)]; simp; rw [List.getElem?_append_right (by simp; rw [E0.out]; omega)]; simp [E0.out, hx]
          clear hx hu1
          have g1 : (w3.drewN q2).cell? ⟨b1, o1 + k2, none⟩ = some (.int .u16 x) := hc1
          have g2 : (w3.drewN q2).cell? ⟨w2.heap.size, len0 + k2, none⟩ = some (.int .u16 x) := hr
          have g3 : (x != x) = false := by simp
          have l1' : ((k2 : Nat) : Int) < len1 := by omega
          have l2' : (len0 : Int) + ((k2 : Nat) : Int) < len0 + len1 := by omega
          have l3' : (0 : Int) ≤ ((k2 : Nat) : Int) := by omega
          have l4' : len0 + k2 < len0 + len1 := by omega
          have l5' : (0 : Int) ≤ (len0 : Int) + ((k2 : Nat) : Int) := by omega
          have t1 : ((len0 : Int) + ((k2 : Nat) : Int)).toNat = len0 + k2 := by omega
          have t2 : IntKind.i64.wrap ((len0 : Int) + ((k2 : Nat) : Int)) = (len0 : Int) + ((k2 : Nat) : Int) := IntWalk.i64_in _ (by omega)
          go_wp2_with fail
          go_quiet (fail)
          clear t1 t2
          go_wp2_with fail
          go_roundw
          case rel => exact ⟨k2 + 1, _, by omega, by go_num, rfl⟩
          case measure => simp [intOf]; omega
        · go_wp2_with fail
          go_loopw [10] (fun i wr => ∃ k : Nat, k ≤ len0 + len1 ∧ i = .int .i64 k ∧ Ints w3 w2.heap.size (len0 + len1) wr) (fun i _ => len0 + len1 - (intOf i).toNat)
          case atStart =>
            refine ⟨0, by omega, rfl, ⟨_, K3.out, ?_, ?_⟩, below_drewN (Below.refl _ _) _⟩
            · simp [E0.out, E1.out]
            · intro i hi
              have hi' : i < (z0 ++ z1).length := by simp [E0.out, E1.out]; exact hi
              exact ⟨(z0 ++ z1)[i], by rw [List.getElem?_toArray, List.getElem?_map, List.getElem?_eq_getElem hi']; rfl⟩
          case round =>
            obtain ⟨k3, hk3, rfl, hI⟩ := hrel
            obtain ⟨⟨cs, hcs, hsz, hall⟩, hbw⟩ := hI
            have CS := Lib.hid hcs
            have SZ := Lib.hid hsz
            have ALL := Lib.hid hall
            have BW := Lib.hid hbw
            clear hcs hsz hall hbw
            by_cases hlt3 : k3 < len0 + len1
            · obtain ⟨x, hx⟩ := ALL.out k3 hlt3
              have g1 : wr.cell? ⟨w2.heap.size, k3, none⟩ = some (.int .u16 x) := by rw [CS.out.cell k3]; exact hx
              have g2 : wr.frozen? ⟨w2.heap.size, k3, none⟩ = false := CS.out.frozen k3
              clear hx
              have l1' : ((k3 : Nat) : Int) < len0 + len1 := by omega
              go_wp2_with fail
              go_roundw
              case rel =>
                refine ⟨k3 + 1, by omega, by go_num, ⟨_, CS.out.set_ k3 _, by simp [SZ.out], ?_⟩, BW.out.setCell (by simp) _⟩
                intro i hi
                rw [Array.getElem?_setIfInBounds]
                by_cases hik : k3 = i
                · subst hik
                  rw [if_pos rfl, if_pos (by rw [SZ.out]; exact hlt3)]
                  exact ⟨_, rfl⟩
                · rw [if_neg hik]
                  exact ALL.out i hi
              case measure => simp [intOf]; omega
            · have zz : w2.heap.size ≤ wr.heap.size := Nat.le_trans (Nat.le_of_lt z3) BW.out.size
              have sA4 : Sl wr wr.heap.size A len0 (z0.map (Value.int .u16)) := (sA3.below BW.out).more zz
              have sB4 : Sl wr wr.heap.size B len1 (z1.map (Value.int .u16)) := (sB3.below BW.out).more zz
              have s04 : Sl wr wr.heap.size a0 len0 (z0.map (Value.int .u16)) := (s03.below (BW.out.mono z2)).more (Nat.le_trans z2 zz)
              have s14 : Sl wr wr.heap.size a1 len1 (z1.map (Value.int .u16)) := (s13.below (BW.out.mono z2)).more (Nat.le_trans z2 zz)
              have hd : decide (z0 = z0) = true := by simp
              have HE := eq_u16 A a0 len0 len0 c cap0 z0 z0 wr sA4 s04 b0 b0
              rw [hd] at HE
              have HE' := Lib.hid HE
              clear HE hd
              go_wp2_with fail
              refine HE'.out.mono ?_
              rintro e w5 ⟨rfl, q5, rfl⟩
              clear HE'
              have hd : decide (z1 = z1) = true := by simp
              have HE := eq_u16 B a1 len1 len1 d cap1 z1 z1 (wr.drewN q5) sB4 s14 b1 b1
              rw [hd] at HE
              have HE' := Lib.hid HE
              clear HE hd
              go_wp2_with fail
              refine HE'.out.mono ?_
              rintro e w6 ⟨rfl, q6, rfl⟩
              go_wp2_with fail
              go_ret
              exact ⟨rfl, below_drewN ((BL2.out.trans (B3.out.mono z2)).trans (BW.out.mono z2)) _⟩

/-! ### THE ROW's STEP: WRITTEN OUT: LEAVE IT -/
set_option maxRecDepth 100000 in
theorem lifted (os : Os) (started : os.Started) (H : Type) (enc : TypeId × Value → H) :
    ReturnsInHanded {} Try.checked os 5 .any (Rows.fnJoinStringsIsAFreshConcatenationSpec.pre6 enc Try.prog Try.f5 Rows.fnJoinStringsIsAFreshConcatenationRow.domain false) (Rows.fnJoinStringsIsAFreshConcatenationSpec.post enc Try.prog Try.f5 false true false false) := by
  refine returnsInHanded_of_change (C := Try.checked) own started (by kernel_rfl) Try.func5
    (ChangeSpec.witness6 (enc := enc) (C := Try.checked) false ⟨#[], #[.slice none 0 0, .slice none 0 0], []⟩ 8 (by kernel_rfl) (by kernel_rfl) (by kernel_rfl) (by kernel_rfl)) ?_
  intro W base args ds gs before hval0 hW hcnd _
  have hval : ∀ (j : Nat) t v, Try.f5.params[j]? = some t → args[j]? = some v → Value.okWide Try.prog W .any base t v := hval0
  have hW' := hW
  obtain ⟨p, q, hA0, hV, rfl, hfz, hnd⟩ := hW
  have hA : DataW.TrodAll enc Try.prog W 0 (fun _ => true) true Try.f5.params.toList args.toList ds p := hA0
  rw [Try.params5] at hA hval
  obtain ⟨v0, vs0, d0, ds0, p0, q0, hargs, rfl, rfl, h0, r0⟩ := trodAll_cons hA
  obtain ⟨v1, vs1, d1, ds1, p1, q1, rfl, rfl, rfl, h1, r1⟩ := trodAll_cons r0
  obtain ⟨rfl, rfl, rfl⟩ := trodAll_nil r1
  obtain rfl : args = #[v0, v1] := by cases args; simp_all
  obtain ⟨rfl, rfl⟩ := trodVars_none hV
  obtain ⟨a0, len0, cap0, rfl⟩ := okWide_slice Try.underlying38 (hval 0 38 v0 rfl rfl)
  have k0 := h0
  have lt0 : ∀ x ∈ p0, x.block < W.heap.size := by obtain ⟨m, hm⟩ := k0; exact DataW.trod_lt m _ _ _ hm
  obtain ⟨z0, w0⟩ : ∃ zs, IsRow (Value.int .u16) (fun n => (Lit.int .u16 n).wf = true) W a0 len0 cap0 zs := by
    obtain ⟨fuel, hf⟩ := h0
    exact isRow_of (Value.int .u16) (fun n => (Lit.int .u16 n).wf = true) 0 Try.underlying38 (by kernel_rfl) hf (fun n v z hz => by obtain ⟨u, h1, _, h3⟩ := DataW.trod_int Try.underlying43 hz; exact ⟨u, by simpa using h1, h3⟩)
  obtain ⟨a1, len1, cap1, rfl⟩ := okWide_slice Try.underlying38 (hval 1 38 v1 rfl rfl)
  have k1 := h1
  have lt1 : ∀ x ∈ p1, x.block < W.heap.size := by obtain ⟨m, hm⟩ := k1; exact DataW.trod_lt m _ _ _ hm
  obtain ⟨z1, w1⟩ : ∃ zs, IsRow (Value.int .u16) (fun n => (Lit.int .u16 n).wf = true) W a1 len1 cap1 zs := by
    obtain ⟨fuel, hf⟩ := h1
    exact isRow_of (Value.int .u16) (fun n => (Lit.int .u16 n).wf = true) 0 Try.underlying38 (by kernel_rfl) hf (fun n v z hz => by obtain ⟨u, h1, _, h3⟩ := DataW.trod_int Try.underlying43 hz; exact ⟨u, by simpa using h1, h3⟩)
  clear hA0 hval0
  refine (walk a0 len0 cap0 z0 a1 len1 cap1 z1 W w0 w1).mono fun e W' ⟨he, bel⟩ => ?_
  subst he
  exact ⟨_, rfl, _, _, _, [], _, [], hW', trodAll_mk1 (shut_bool Try.underlying4 _), (trodAll_cons_mk (Below.trod laidOut (by kernel_rfl) (of_decide_eq_true (by kernel_rfl)) k0 bel lt0) (trodAll_cons_mk (Below.trod laidOut (by kernel_rfl) (of_decide_eq_true (by kernel_rfl)) k1 bel lt1) trodAll_mk0)), rfl, bel.frame _, fun h => by cases h⟩

theorem over : Rows.fnJoinStringsIsAFreshConcatenationRow.holds Try.pinned (OpenSpec.ofChange Rows.fnJoinStringsIsAFreshConcatenationSpec) :=
  OpenClaim.holds_of_wide 5 Try.f5 rfl rfl rfl rfl rfl rfl rfl ⟨rfl, rfl, rfl, rfl, rfl⟩ rfl rfl rfl rfl rfl (by kernel_rfl) Try.func5 (by kernel_rfl)
    (of_decide_eq_true (by kernel_rfl)) (by unfold Func.isWrapper; first | (rw [if_pos (by decide +kernel)]; kernel_rfl) | (rw [if_neg (by decide +kernel)]; exact ⟨rfl, rfl⟩))
    (fun os started H enc _ => lifted os started H enc)

/-- THE STATEMENT -/
theorem proved : Rows.FnJoinStringsIsAFreshConcatenationSaid := over
#print axioms proved
end Go.Proofs.Ytaljndnoeiocdab.fnJoinStringsIsAFreshConcatenation
