/-
  For every bool and every slice of int8s the law FnStringAdditionChainClosedForm returns true and leaves its arguments as they were; no condition.
  The frame of this text was written by the kit's program proof-skeleton.mjs for this statement; the walk and its lemmas are the prover's.
-/
import Derived.Test.YtbmmmgccmkompadRows
import Derived.WalkKit
import Derived.ProofKit
import Derived.OpenShut
import Derived.Test.YtbmmmgccmkompadSlW
import Derived.Test.YtbmmmgccmkompadScA
import Derived.Test.YtbmmmgccmkompadScB
import Derived.Test.YtbmmmgccmkompadScC
import Derived.Test.YtbmmmgccmkompadScD
import Derived.Test.YtbmmmgccmkompadScE
import Derived.Test.YtbmmmgccmkompadScF
import Derived.Outline
import Derived.DataReads
import Derived.Deep.Cut
import Derived.LaidEql
import Derived.LoopTactic
import Derived.RegionTactic
import Derived.Deep.RegionHeld3
import Derived.ShutString
import Derived.ChangeOld
import Derived.Below
import Derived.WalkLawsBesides
import Derived.Deep.Slices
import Derived.Laws.Cover2
namespace Go.Proofs.Ytbmmmgccmkompad.fnStringAdditionChainClosedForm
open Go.ChangeShapes Go.WideShapes Go.ChangeAt Go.RowKit
open Go.ChangeMaps (open_string shut_string)
open Go.Deep (open_slice1)
set_option linter.unusedVariables false

theorem own : ownKnob Try.prog.godebug = none := by kernel_rfl
theorem laidOut : laidOutB Try.prog = true := by kernel_rfl

def IsRow {α : Type} (φ : α → Value) (ok : α → Prop) (w : World) (a : Option Addr) (len cap : Nat) (zs : List α) : Prop :=
  (a = none ∧ len = 0 ∧ cap = 0 ∧ zs = []) ∨
  ∃ x, a = some x ∧ len ≤ cap ∧ cap ≤ maxLen ∧ zs.length = len ∧ (∀ i (h : i < zs.length), w.cell? (x.add i) = some (φ zs[i])) ∧ ∀ n ∈ zs, ok n

theorem isRow_of {α : Type} {H : Type} {enc : TypeId × Value → H} {P : Program} {w : World} {held : Bool} {t e : TypeId} {fuel : Nat} {a : Option Addr} {len cap : Nat} {y : DataW H × List MemPlace} (φ : α → Value) (ok : α → Prop) (d0 : α) (ht : P.underlying t = some (.slice e)) (hc : P.cellsOf e = 1)
    (h : DataW.trod enc P w 0 (fun _ => true) held fuel t (Value.slice a len cap).cells.toList = some y)
    (each : ∀ (n : Nat) (v : Value) (z : DataW H × List MemPlace), DataW.trod enc P w 0 (fun _ => true) held n e [v] = some z → ∃ u, v = φ u ∧ ok u) : ∃ zs, IsRow φ ok w a len cap zs := by
  rcases open_slice1 ht hc h with ⟨hcs, _⟩ | ⟨x, l, c, m, n, V, D, Pl, hcs, _, hl, hm, hmm, hy, hx⟩
  · simp [Value.cells] at hcs
    obtain ⟨rfl, rfl, rfl⟩ := hcs
    exact ⟨[], .inl ⟨rfl, rfl, rfl, rfl⟩⟩
  · simp [Value.cells] at hcs
    obtain ⟨rfl, rfl, rfl⟩ := hcs
    simp only [if_true] at hmm
    subst hmm
    have hex : ∀ i, ∃ u, i < len → V i = φ u ∧ ok u := by
      intro i
      by_cases hi : i < len
      · obtain ⟨u, h1, h2⟩ := each n (V i) _ (hx i (by omega)).2
        exact ⟨u, fun _ => ⟨h1, h2⟩⟩
      · exact ⟨d0, fun h => absurd h hi⟩
    refine ⟨(List.range len).map fun i => Classical.choose (hex i), .inr ⟨x, rfl, hl, hm, by simp, ?_, ?_⟩⟩
    · intro i hi
      simp at hi
      rw [(hx i (by omega)).1, (Classical.choose_spec (hex i) hi).1]
      simp
    · intro u hu
      simp at hu
      obtain ⟨i, hi, rfl⟩ := hu
      exact (Classical.choose_spec (hex i) hi).2

theorem block_lt {w : World} {a : Addr} {v : Value} (h : w.cell? a = some v) : a.block < w.heap.size := by
  rcases Nat.lt_or_ge a.block w.heap.size with hlt | hge
  · exact hlt
  · simp [World.cell?, Array.getElem?_eq_none hge] at h
theorem sl_of_row {α : Type} {φ : α → Value} {ok : α → Prop} {w : World} {a : Option Addr} {len cap : Nat} {zs : List α} (h : IsRow φ ok w a len cap zs) : Sl w w.heap.size a len (zs.map φ) ∧ (a = none → len = 0 ∧ cap = 0) := by
  rcases h with ⟨rfl, rfl, rfl, rfl⟩ | ⟨x, rfl, _, _, hl, hc, _⟩
  · exact ⟨Sl.empty, fun _ => ⟨rfl, rfl⟩⟩
  · refine ⟨⟨by simpa using hl, fun hn => ?_⟩, fun h => by cases h⟩
    have h0 := hc 0 (by omega)
    have hx : x.add 0 = x := by simp [Addr.add]
    rw [hx] at h0
    have hs := World.cell?_spot h0
    have hb := block_lt h0
    obtain ⟨b, off, sp⟩ := x
    simp at hs
    subst hs
    refine ⟨b, off, rfl, hb, fun j u hu => ?_⟩
    simp at hu
    obtain ⟨y, hy, rfl⟩ := hu
    have hj : j < zs.length := (List.getElem?_eq_some_iff.1 hy).1
    have := hc j hj
    rw [(List.getElem?_eq_some_iff.1 hy).2] at this
    rw [← this]
    unfold Addr.add
    split
    · rename_i h; simp [h]
    · rfl
theorem len_le {α : Type} {φ : α → Value} {ok : α → Prop} {w : World} {a : Option Addr} {len cap : Nat} {zs : List α} (h : IsRow φ ok w a len cap zs) : len ≤ 9223372036854775807 := by
  rcases h with ⟨rfl, rfl, rfl, rfl⟩ | ⟨x, rfl, h1, h2, _⟩
  · omega
  · unfold maxLen at h2; omega
def Byt (Q : Prop) (w : World) (e : Ending) (w' : World) : Prop := ∃ b, e = .returned (.bool b) ∧ w = w' ∧ (b = true → Q)
set_option maxRecDepth 100000 in
theorem bytes_any (b : Bool) (A : Option Addr) (n c : Nat) (w : World) (h1 : n ≤ 9223372036854775807) :
    Calls Try.prog 4 #[.bool b, .slice A n c] w (Byt (n ≤ big20) w) := by
  go_enter Try.func4, Try.ntmps4
  go_wp2_with fail
  all_goals (go_ret; exact ⟨_, rfl, rfl, fun h => by first | (unfold big20; omega) | cases h⟩)
/-- What the law's search finds: the number of the first operand that is a string with units in it, or the first operand, or -1. -/
def Found (ls : Bool) (rs : List Int) (n : Nat) (j : Int) : Prop :=
  (j = -1 ∧ st ls rs n = false) ∨ (∃ m : Nat, j = m ∧ m ≤ n ∧ ((m = 0 ∧ ls = true) ∨ (∃ i, m = i + 1 ∧ st ls rs i = false ∧ 0 < rs.getD i 0)))
def JR (ls : Bool) (rs : List Int) (n : Nat) (ws : World) (v : Value) (wx : World) : Prop := ∃ j, v = .int .i64 j ∧ Found ls rs n j ∧ wx = ws
/-- What holds at the head of a round of the law's second loop. -/
def LL (ls : Bool) (rs : List Int) (D : Nat → Value) (Q : Nat → Nat) (n m B : Nat) (w4 : World) (i : Nat) (wr : World) : Prop :=
  m ≤ i ∧ i ≤ n ∧ Below w4.heap.size w4 wr ∧ ∃ d l, Bk wr w4.heap.size 34 #[d, .int .i32 l] ∧ Ch w4 B ls rs D Q i d l

set_option maxRecDepth 100000 in
set_option maxHeartbeats 4000000 in
theorem walk (a0 : Bool) (a1 : Option Addr) (len1 cap1 : Nat) (z1 : List Int) (w : World) (w1 : IsRow (Value.int .i8) (fun n => (Lit.int .i8 n).wf = true) w a1 len1 cap1 z1) :
    Calls Try.prog 3 #[.bool a0, .slice a1 len1 cap1] w fun e w' => e = .returned (.bool true) ∧ Below w.heap.size w w' := by
  have l0 := len_le w1
  obtain ⟨s0, n0⟩ := sl_of_row w1
  clear w1 n0
  have S0 := Lib.hid s0
  clear s0
  generalize len1 = n at *
  generalize z1 = rs at *
  generalize a0 = ls at *
  go_enter Try.func3, Try.ntmps3
  go_wp2_with fail
  refine (bytes_any ls a1 n cap1 w l0).mono ?_
  rintro e w1 ⟨b, rfl, rfl, hq⟩
  cases b
  · go_wp2_with fail
    go_ret
    exact ⟨rfl, Below.refl _ _⟩
  clear hq
  by_cases hbig : 16384 < n
  · go_wp2_with fail
    go_ret
    exact ⟨rfl, Below.refl _ _⟩
  have hn : n ≤ 16384 := by omega
  clear hbig l0
  go_wp2_with fail
  refine (build_any ls a1 n cap1 rs w S0.out hn).mono ?_
  rintro e wb ⟨D, G, Q, N, I, an, ai, he, ht, hr, hb1⟩
  obtain rfl : e = .returned (.agg #[.slice (some ⟨N, 0, none⟩) (n + 1) (n + 1), .slice (some ⟨I, 0, none⟩) (n + 1) (n + 1)]) := he
  have HT := Lib.hid ht
  have HR := Lib.hid hr
  have B1 := Lib.hid hb1
  have zN := hr.bn.lt
  have zI := hr.bi.lt
  have dn := hr.dn n (Nat.le_refl _)
  rw [Nat.mul_comm] at dn
  have D0 : wb.cell? ⟨N, n * 2, none⟩ = some (D n) := by rw [hr.bn.cell]; exact dn.1
  have D1 : wb.cell? ⟨N, n * 2 + 1, none⟩ = some (.int .i32 (loc n)) := by rw [hr.bn.cell]; exact dn.2
  obtain ⟨T, g, tg, csg, hd, hbg, hT⟩ := ht.shape
  have E := export_any ls rs D G Q n (wb.alloc (.cells #[.slice (some ⟨N, 0, none⟩) (n + 1) (n + 1), .slice (some ⟨I, 0, none⟩) (n + 1) (n + 1)] 27)) (ht.later ((Below.refl _ _).alloc (Nat.le_refl _) _))
  rw [hd] at E
  clear dn ht hr hb1
  have HD := Lib.hid hd
  have HG := Lib.hid hbg
  have HTT := Lib.hid hT
  rw [hd] at D0
  clear hd hbg hT
  have EE := Lib.hid E
  clear E
  go_wp2_with fail
  refine EE.out.mono ?_
  rintro e w2 ⟨hb2, hr2⟩
  obtain ⟨T', g', l', b, rfl, hT', R⟩ : ∃ T' g' l' b, e = .returned (.tuple #[.agg #[.iface T' (ptr g'), .int .i32 l'], .bool b]) ∧ okT T' ∧ Hid ((st ls rs n = false ∧ T' = T ∧ g' = g ∧ l' = loc n ∧ b = false) ∨ (st ls rs n = true ∧ b = true ∧ Ch w2 (wb.heap.size + 1) ls rs D Q n (.iface T' (ptr g')) l')) := by
    rcases hr2 with ⟨h1, h2⟩ | ⟨h1, d, l, h2, h3⟩
    · exact ⟨T, g, _, false, by rw [h2, HD.out], HTT.out, .inl ⟨h1, rfl, rfl, rfl, rfl⟩⟩
    · obtain ⟨T', g', t', cs', rfl, -, -, h4⟩ := h3.shape
      exact ⟨T', g', l, true, h2, h4, .inr ⟨h1, rfl, by simpa using h3⟩⟩
  clear hr2 EE
  simp at hb2
  have B2 := Lib.hid hb2
  have bC : Bk w2 wb.heap.size 27 #[.slice (some ⟨N, 0, none⟩) (n + 1) (n + 1), .slice (some ⟨I, 0, none⟩) (n + 1) (n + 1)] := (Bk.new _ _ _).below hb2 (by omega)
  have lat : Below wb.heap.size wb w2 := ((Below.refl _ _).alloc (Nat.le_refl _) _).trans (hb2.mono (by omega))
  have BC := Lib.hid bC
  have LAT := Lib.hid lat
  have HT'  := Lib.hid hT'
  clear D0 D1 hb2 bC lat hT'
  go_upto_if 46 with fail
  obtain ⟨ws, hws⟩ : ∃ ws, ws = w2.alloc (.cells #[.iface T' (ptr g'), .int .i32 l'] 34) := ⟨_, rfl⟩
  rw [← hws]
  have XG : Hid (Bk ws w2.heap.size 34 #[.iface T' (ptr g'), .int .i32 l']) := by rw [hws]; exact Bk.new _ _ _
  have XC : Hid (Bk ws wb.heap.size 27 #[.slice (some ⟨N, 0, none⟩) (n + 1) (n + 1), .slice (some ⟨I, 0, none⟩) (n + 1) (n + 1)]) := by rw [hws]; exact BC.out.alloc _
  have LS : Hid (Below wb.heap.size wb ws) := by rw [hws]; exact LAT.out.alloc LAT.out.size _
  have RS : Hid ((st ls rs n = false ∧ T' = T ∧ g' = g ∧ l' = loc n ∧ b = false) ∨ (st ls rs n = true ∧ b = true ∧ Ch ws (wb.heap.size + 1) ls rs D Q n (.iface T' (ptr g')) l')) := by
    rw [hws]
    rcases R.out with h | ⟨h1, h2, h3⟩
    · exact .inl h
    · exact .inr ⟨h1, h2, h3.later ((Below.refl _ _).alloc (Nat.le_refl _) _)⟩
  have zs : w2.heap.size < ws.heap.size := XG.out.lt
  clear hws BC LAT R B2
  go_cut [9] from 25 (fun v wx => JR ls rs n ws v wx)
  case first =>
    cases ls
    · go_wp2_with fail
      go_loop [9, 10] (fun j i => j = .int .i64 (-1) ∧ ∃ m p : Nat, m ≤ n + 1 ∧ i = .int .i64 m ∧ Hid (m = p + 1 ∧ st false rs p = false)) (fun _ i => n + 1 - (intOf i).toNat)
      case atStart => exact ⟨rfl, 1, 0, by omega, rfl, rfl, rfl⟩
      case round =>
        obtain ⟨rfl, m, q, hm, rfl, H⟩ := hrel
        by_cases hlt : m ≤ n
        · have hm1 : 1 ≤ m := by have := H.out.1; omega
          obtain ⟨bb, off, u, hA, hbb, hu, hx⟩ := S0.out.at_ (k := q) (by have := H.out.1; omega)
          obtain ⟨r, hr0, rfl⟩ : ∃ r, rs[q]? = some r ∧ Value.int .i8 r = u := by simpa using hu
          have ex : m - 1 = q := by have := H.out.1; omega
          have sz := B1.out.size
          have sz2 := LS.out.size
          have c0 : ws.cell? ⟨bb, off + (m - 1), none⟩ = some (.int .i8 r) := by rw [ex, LS.out.cell (p := ⟨bb, off + q, none⟩) (by show bb < _; omega), B1.out.cell (p := ⟨bb, off + q, none⟩) hbb]; exact hx
          have hg : Hid (rs.getD q 0 = r) := by rw [List.getD_eq_getElem?_getD, hr0]; rfl
          subst hA
          clear ex hx hu hr0 sz sz2
          by_cases h1 : 0 < r
          · go_wp2_with fail
            go_meet
            case rel => exact ⟨_, rfl, .inr ⟨m, rfl, hlt, .inr ⟨q, H.out.1, H.out.2, by rw [hg.out]; exact h1⟩⟩, rfl⟩
          · go_wp2_with fail
            go_round
            case rel => exact ⟨rfl, m + 1, q + 1, by omega, by go_num, by have := H.out.1; omega, st_no H.out.2 (by rw [hg.out]; exact h1)⟩
            case measure => simp [intOf]; omega
        · go_wp2_with fail
          go_meet
          case rel => exact ⟨_, rfl, .inl ⟨rfl, by have h := H.out.2; have : q = n := by { have := H.out.1; omega }; rw [← this]; exact h⟩, rfl⟩
    · go_wp2_with fail
      go_meet
      case rel => exact ⟨_, rfl, .inr ⟨0, rfl, by omega, .inl ⟨rfl, rfl⟩⟩, rfl⟩
  obtain ⟨j, rfl, hj, rfl⟩ := hcut
  rcases hj with ⟨rfl, hst⟩ | ⟨m, rfl, hmn, hm⟩
  · obtain ⟨-, rfl, rfl, rfl, rfl⟩ : st ls rs n = false ∧ T' = T ∧ g' = g ∧ l' = loc n ∧ b = false := by
      rcases RS.out with h | ⟨h, _⟩
      · exact h
      · rw [hst] at h; cases h
    clear RS hst
    have LW := Lib.hid (B1.out.trans (LS.out.mono B1.out.size))
    have dn := HR.out.dn n (Nat.le_refl _)
    rw [Nat.mul_comm, HD.out] at dn
    have bN := HR.out.bn.later LS.out
    have D0 : wc.cell? ⟨N, n * 2, none⟩ = some (.iface T' (ptr g')) := by rw [bN.cell]; exact dn.1
    have D1 : wc.cell? ⟨N, n * 2 + 1, none⟩ = some (.int .i32 (loc n)) := by rw [bN.cell]; exact dn.2
    have g0 : wc.cell? ⟨w2.heap.size, 0, none⟩ = some (.iface T' (ptr g')) := XG.out.cell 0
    have g1 : wc.cell? ⟨w2.heap.size, 1, none⟩ = some (.int .i32 (loc n)) := XG.out.cell 1
    have C0 : wc.cell? ⟨wb.heap.size, 0, none⟩ = some (.slice (some ⟨N, 0, none⟩) (n + 1) (n + 1)) := XC.out.cell 0
    have xC := XC.out.lt
    have xN := bN.lt
    have KP := Lib.hid (show ∀ w', Below wc.heap.size wc w' → w'.cell? ⟨w2.heap.size, 0, none⟩ = some (.iface T' (ptr g')) ∧ w'.cell? ⟨w2.heap.size, 1, none⟩ = some (.int .i32 (loc n)) ∧ w'.cell? ⟨wb.heap.size, 0, none⟩ = some (.slice (some ⟨N, 0, none⟩) (n + 1) (n + 1)) ∧ w'.cell? ⟨N, n * 2, none⟩ = some (.iface T' (ptr g')) ∧ w'.cell? ⟨N, n * 2 + 1, none⟩ = some (.int .i32 (loc n)) from fun w' h => ⟨(h.cell (p := ⟨_, 0, none⟩) zs).trans g0, (h.cell (p := ⟨_, 1, none⟩) zs).trans g1, (h.cell (p := ⟨_, 0, none⟩) xC).trans C0, (h.cell (p := ⟨_, n * 2, none⟩) xN).trans D0, (h.cell (p := ⟨_, n * 2 + 1, none⟩) xN).trans D1⟩)
    have SM := Lib.hid (fun w => same_any T' g' (loc n) w HTT.out)
    have hi2 : (0 : Int) ≤ (n : Int) := by omega
    have hi3 : (n : Int) < (n : Int) + 1 := by omega
    have hi4 : n < n + 1 := by omega
    clear bN dn
    go_wp2_with fail
    go_region_held3 (fun w' => w'.cell? ⟨w2.heap.size, 0, none⟩ = some (.iface T' (ptr g')) ∧ w'.cell? ⟨w2.heap.size, 1, none⟩ = some (.int .i32 (loc n)) ∧ w'.cell? ⟨wb.heap.size, 0, none⟩ = some (.slice (some ⟨N, 0, none⟩) (n + 1) (n + 1)) ∧ w'.cell? ⟨N, n * 2, none⟩ = some (.iface T' (ptr g')) ∧ w'.cell? ⟨N, n * 2 + 1, none⟩ = some (.int .i32 (loc n))) ((refine KP.out _ ?_; (first | exact Below.refl _ _ | exact Below.drew (Below.refl _ _) | exact (Below.drew (Below.refl _ _)).trans (by assumption)))) (first | (go_at_call 7; refine (SM.out _).mono ?_; rintro e w' ⟨rfl, hb⟩))
    go_wp2_with fail
    go_ret
    exact ⟨rfl, LW.out.trans (((Below.drew (Below.refl _ _)).trans hb).mono LW.out.size)⟩
  · have hst : Hid (st ls rs n = true) := by
      rcases hm with ⟨h, h'⟩ | ⟨i, h, h', h''⟩
      · exact st_le (i := 0) h' (by omega)
      · exact st_le (st_new h' h'') (by omega)
    obtain ⟨rfl, hch⟩ : b = true ∧ Hid (Ch wc (wb.heap.size + 1) ls rs D Q n (.iface T' (ptr g')) l') := by
      rcases RS.out with ⟨h, _⟩ | ⟨_, h, h'⟩
      · rw [hst.out] at h; cases h
      · exact ⟨h, h'⟩
    have HM := Lib.hid hm
    clear RS hm
    have LW := Lib.hid (B1.out.trans (LS.out.mono B1.out.size))
    have g0 : wc.cell? ⟨w2.heap.size, 0, none⟩ = some (.iface T' (ptr g')) := XG.out.cell 0
    have g1 : wc.cell? ⟨w2.heap.size, 1, none⟩ = some (.int .i32 l') := XG.out.cell 1
    go_wp2_with fail
    clear g0 g1
    obtain ⟨w4, rfl⟩ : ∃ w4 : World, w4 = wc := ⟨_, rfl⟩
    go_loopw [12] (fun v wr => ∃ i : Nat, v = .int .i64 i ∧ Hid (LL ls rs D Q n m (wb.heap.size + 1) w4 i wr)) (fun v _ => (intOf v).toNat)
    case atStart => exact ⟨n, rfl, hmn, Nat.le_refl _, (Below.refl _ _).alloc (Nat.le_refl _) _, _, _, Bk.new _ _ _, hch.out⟩
    case round =>
      obtain ⟨i, rfl, H⟩ := hrel
      obtain ⟨h1, h2, h3, d, l, hx, hc⟩ := H.out
      have HX := Lib.hid hx
      have H3 := Lib.hid h3
      have lw := LW.out.trans (h3.mono LW.out.size)
      have zx := hx.lt
      have fx := hx.frozen
      have x0 : wr.cell? ⟨w4.heap.size, 0, none⟩ = some d := hx.cell 0
      have x1 : wr.cell? ⟨w4.heap.size, 1, none⟩ = some (.int .i32 l) := hx.cell 1
      have bC := XC.out.later h3
      have C0 : wr.cell? ⟨wb.heap.size, 0, none⟩ = some (.slice (some ⟨N, 0, none⟩) (n + 1) (n + 1)) := bC.cell 0
      have C1 : wr.cell? ⟨wb.heap.size, 1, none⟩ = some (.slice (some ⟨I, 0, none⟩) (n + 1) (n + 1)) := bC.cell 1
      have zC := bC.lt
      have lb := LS.out.trans (h3.mono LS.out.size)
      by_cases hlt : m < i
      · obtain ⟨i', rfl⟩ : ∃ i', i = i' + 1 := ⟨i - 1, by omega⟩
        obtain ⟨k, hk⟩ : ∃ k, k = i' + 1 := ⟨_, rfl⟩
        obtain ⟨bb, off, u, hA, hbb, hu, hxx⟩ := S0.out.at_ (k := i') (by omega)
        obtain ⟨r, hr0, rfl⟩ : ∃ r, rs[i']? = some r ∧ Value.int .i8 r = u := by simpa using hu
        have c0 : wr.cell? ⟨bb, off + (k - 1), none⟩ = some (.int .i8 r) := by rw [hk, Nat.add_sub_cancel, lw.cell (p := ⟨bb, off + i', none⟩) hbb]; exact hxx
        have hg : rs.getD i' 0 = r := by rw [List.getD_eq_getElem?_getD, hr0]; rfl
        have hsi : st ls rs i' = true := by
          rcases HM.out with ⟨h, h'⟩ | ⟨i, h, h', h''⟩
          · exact st_le (i := 0) h' (by omega)
          · exact st_le (st_new h' h'') (by omega)
        have zb : bb < wr.heap.size := by have := lw.size; omega
        subst hA
        rcases hc with ⟨-, e2, gg, dl, ll, rfl, rfl, e5, e6, e7⟩ | ⟨-, e2, e3⟩ | ⟨e1, -, -⟩
        · rw [hg] at e2
          have e8 := e6.later h3
          obtain ⟨T3, g3, t3, cs3, rfl, -, -, -⟩ := e7.shape
          have q0 : wr.cell? ⟨gg, 0, none⟩ = some (.iface T3 (ptr g3)) := e8.cell 0
          have q1 : wr.cell? ⟨gg, 1, none⟩ = some (.int .i32 ll) := e8.cell 1
          have q2 : wr.cell? ⟨gg, 2, none⟩ = some (.iface 44 (ptr (Q (i' + 1)))) := e8.cell 2
          have q3 : wr.cell? ⟨gg, 3, none⟩ = some (.int .i32 (2 * (k : Int))) := by rw [hk]; exact e8.cell 3
          have q4 : wr.cell? ⟨gg, 4, none⟩ = some (.int .u8 11) := e8.cell 4
          have bI := HR.out.bi.later lb
          have i1 : wr.cell? ⟨I, k, none⟩ = some (ptr (Q (i' + 1))) := by rw [bI.cell, hk]; exact HR.out.di i' (by omega) (by rw [hg]; exact e2)
          have el : loc (i' + 1) = 2 * (k : Int) + 1 := by rw [loc_succ, hk]; rfl
          rw [el] at x1
          have np := fun w => neqP (T := 44) (.inl rfl) ⟨Q (i' + 1), 0, none⟩ w
          have kn : k ≤ n := by omega
          have mk : m < k := by omega
          have E7 := Lib.hid e7
          have HK := Lib.hid hk
          rw [← hk] at np i1 q2
          rw [← hk]
          clear hk h1 h2 h3 hx lw bC lb hxx hu hr0 hg hsi bI el e5 e6 e7 e8 H
          go_wp2_with fail
          refine ⟨⟨i', by have := HK.out; congr 1; omega, by have := HK.out; omega, by have := HK.out; omega, (H3.out.setCell (by simp) _).setCell (by simp) _, _, _, by have := (HX.out.setSelf (o := 0) (v := .iface T3 (ptr g3))).setSelf (o := 1) (v := .int .i32 ll); simpa using this, E7.out⟩, by simp [intOf]; omega⟩
        · rw [hg] at e2
          obtain ⟨T3, g3, t3, cs3, rfl, -, -, -⟩ := e3.shape
          have kn : k ≤ n := by omega
          have mk : m < k := by omega
          have E3 := Lib.hid e3
          have HK := Lib.hid hk
          rw [← hk]
          clear hk h1 h2 h3 hx lw bC lb hxx hu hr0 hg hsi e3 H
          go_wp2_with fail
          refine ⟨⟨i', by have := HK.out; congr 1; omega, by have := HK.out; omega, by have := HK.out; omega, H3.out, _, _, HX.out, E3.out⟩, by simp [intOf]; omega⟩
        · rw [hsi] at e1; cases e1
      · have him : m = i := by omega
        subst him
        have z2 := LS.out.size
        rcases HM.out with ⟨rfl, hls⟩ | ⟨p, hp, hsp, hpos⟩
        · obtain ⟨g5, A5, c5, a5, b5, e5, f5, rfl, rfl, k1, k2⟩ := hc
          have k3 := k2.later h3
          rcases HT.out.z with ⟨z1, -⟩ | ⟨-, z2, A6, n6, c6, a6, b6, e6, f6, z3, z4⟩
          · rw [hls] at z1; exact absurd z1 (by decide)
          · have ne : g5 ≠ Q 0 := by have := z4.lt; omega
            have nq := neqQ (T := 46) (.inr (.inl rfl)) g5 (Q 0) wr _ _ _ _ k3 (z4.later lb) ne
            have bN := HR.out.bn.later lb
            have d0 : wr.cell? ⟨N, 0, none⟩ = some (.iface 46 (ptr (Q 0))) := by rw [bN.cell, ← z2]; exact (HR.out.dn 0 (by omega)).1
            have s0 : wr.cell? ⟨g5, 0, none⟩ = some (.slice A5 0 c5) := k3.cell 0
            clear h1 h2 h3 hx bC lb k1 k2 k3 z2 z3 z4 bN hlt H
            have LWR := Lib.hid lw
            clear lw
            go_wp2_with fail
            go_ret
            exact ⟨rfl, LWR.out⟩
        · rw [hp] at hc
          rcases hc with ⟨e1, -⟩ | ⟨e1, -⟩ | ⟨-, -, g5, h5, A5, c5, a5, b5, e5, f5, rfl, rfl, k1, k2, k3⟩
          · rw [hsp] at e1; cases e1
          · rw [hsp] at e1; cases e1
          obtain ⟨T5, g6, t6, cs6, hdp, -, hT5⟩ := (HT.out.less (k := p) (by omega)).shape
          rw [hdp] at k2
          have k4 := k2.later h3
          have k5 := k3.later h3
          have q0 : wr.cell? ⟨g5, 0, none⟩ = some (.iface T5 (ptr g6)) := k4.cell 0
          have q1 : wr.cell? ⟨g5, 1, none⟩ = some (.int .i32 (loc p)) := k4.cell 1
          have q2 : wr.cell? ⟨g5, 2, none⟩ = some (.iface 46 (ptr h5)) := k4.cell 2
          have q3 : wr.cell? ⟨g5, 3, none⟩ = some (.int .i32 (2 * (m : Int))) := by rw [hp]; exact k4.cell 3
          have q4 : wr.cell? ⟨g5, 4, none⟩ = some (.int .u8 11) := k4.cell 4
          have r0 : wr.cell? ⟨h5, 0, none⟩ = some (.slice A5 0 c5) := k5.cell 0
          have el : loc (p + 1) = 2 * (m : Int) + 1 := by rw [loc_succ, hp]; rfl
          rw [el] at x1
          have bN := HR.out.bn.later lb
          have dn := HR.out.dn p (by omega)
          rw [Nat.mul_comm, hdp] at dn
          have D0 : wr.cell? ⟨N, p * 2, none⟩ = some (.iface T5 (ptr g6)) := by rw [bN.cell]; exact dn.1
          have D1 : wr.cell? ⟨N, p * 2 + 1, none⟩ = some (.int .i32 (loc p)) := by rw [bN.cell]; exact dn.2
          have zN := bN.lt
          have z5 := k4.lt
          have m0 : ((m : Int) == 0) = false := by simp; omega
          have ws : IntKind.i64.wrap ((m : Int) - 1) = (p : Int) := by rw [IntWalk.i64_in _ (by omega)]; omega
          have hi2 : (0 : Int) ≤ (p : Int) := by omega
          have hi3 : (p : Int) < (n : Int) + 1 := by omega
          have hi4 : p < n + 1 := by omega
          have mb : m ≤ n := h2
          have KP := Lib.hid (show ∀ w', Below wr.heap.size wr w' → w'.cell? ⟨g5, 0, none⟩ = some (.iface T5 (ptr g6)) ∧ w'.cell? ⟨g5, 1, none⟩ = some (.int .i32 (loc p)) ∧ w'.cell? ⟨wb.heap.size, 0, none⟩ = some (.slice (some ⟨N, 0, none⟩) (n + 1) (n + 1)) ∧ w'.cell? ⟨N, p * 2, none⟩ = some (.iface T5 (ptr g6)) ∧ w'.cell? ⟨N, p * 2 + 1, none⟩ = some (.int .i32 (loc p)) from fun w' h => ⟨(h.cell (p := ⟨_, 0, none⟩) z5).trans q0, (h.cell (p := ⟨_, 1, none⟩) z5).trans q1, (h.cell (p := ⟨_, 0, none⟩) zC).trans C0, (h.cell (p := ⟨_, p * 2, none⟩) zN).trans D0, (h.cell (p := ⟨_, p * 2 + 1, none⟩) zN).trans D1⟩)
          have SM := Lib.hid (fun w => same_any T5 g6 (loc p) w hT5)
          have LWR := Lib.hid lw
          have HP := Lib.hid hp
          have WS := Lib.hid ws
          clear h1 h3 hx bC lb k1 k2 k3 k4 k5 bN dn hlt H lw hp hdp el hsp hpos ws
          go_wp2_with fail
          have ws := WS.out
          go_region_held3 (fun w' => w'.cell? ⟨g5, 0, none⟩ = some (.iface T5 (ptr g6)) ∧ w'.cell? ⟨g5, 1, none⟩ = some (.int .i32 (loc p)) ∧ w'.cell? ⟨wb.heap.size, 0, none⟩ = some (.slice (some ⟨N, 0, none⟩) (n + 1) (n + 1)) ∧ w'.cell? ⟨N, p * 2, none⟩ = some (.iface T5 (ptr g6)) ∧ w'.cell? ⟨N, p * 2 + 1, none⟩ = some (.int .i32 (loc p))) ((refine KP.out _ ?_; (first | exact Below.refl _ _ | exact Below.drew (Below.refl _ _) | exact (Below.drew (Below.refl _ _)).trans (by assumption)))) (first | (go_at_call 7; refine (SM.out _).mono ?_; rintro e w' ⟨rfl, hb⟩))
          go_wp2_with fail
          go_ret
          exact ⟨rfl, LWR.out.trans (((Below.drew (Below.refl _ _)).trans hb).mono LWR.out.size)⟩

/-! ### THE ROW's STEP: WRITTEN OUT: LEAVE IT -/
set_option maxRecDepth 100000 in
theorem lifted (os : Os) (started : os.Started) (H : Type) (enc : TypeId × Value → H) :
    ReturnsInHanded {} Try.checked os 3 .any (Rows.fnStringAdditionChainClosedFormSpec.pre6 enc Try.prog Try.f3 Rows.fnStringAdditionChainClosedFormRow.domain false) (Rows.fnStringAdditionChainClosedFormSpec.post enc Try.prog Try.f3 false true false false) := by
  refine returnsInHanded_of_change (C := Try.checked) own started (by kernel_rfl) Try.func3
    (ChangeSpec.witness6 (enc := enc) (C := Try.checked) false ⟨#[], #[.bool false, .slice none 0 0], []⟩ 8 (by kernel_rfl) (by kernel_rfl) (by kernel_rfl) (by kernel_rfl)) ?_
  intro W base args ds gs before hval0 hW hcnd _
  have hval : ∀ (j : Nat) t v, Try.f3.params[j]? = some t → args[j]? = some v → Value.okWide Try.prog W .any base t v := hval0
  have hW' := hW
  obtain ⟨p, q, hA0, hV, rfl, hfz, hnd⟩ := hW
  have hA : DataW.TrodAll enc Try.prog W 0 (fun _ => true) true Try.f3.params.toList args.toList ds p := hA0
  rw [Try.params3] at hA hval
  obtain ⟨v0, vs0, d0, ds0, p0, q0, hargs, rfl, rfl, h0, r0⟩ := trodAll_cons hA
  obtain ⟨v1, vs1, d1, ds1, p1, q1, rfl, rfl, rfl, h1, r1⟩ := trodAll_cons r0
  obtain ⟨rfl, rfl, rfl⟩ := trodAll_nil r1
  obtain rfl : args = #[v0, v1] := by cases args; simp_all
  obtain ⟨rfl, rfl⟩ := trodVars_none hV
  obtain ⟨a0, rfl, rfl, rfl⟩ := open_bool Try.underlying4 (hval 0 4 v0 rfl rfl) h0
  obtain ⟨a1, len1, cap1, rfl⟩ := okWide_slice Try.underlying22 (hval 1 22 v1 rfl rfl)
  have k1 := h1
  have lt1 : ∀ x ∈ p1, x.block < W.heap.size := by obtain ⟨m, hm⟩ := k1; exact DataW.trod_lt m _ _ _ hm
  obtain ⟨z1, w1⟩ : ∃ zs, IsRow (Value.int .i8) (fun n => (Lit.int .i8 n).wf = true) W a1 len1 cap1 zs := by
    obtain ⟨fuel, hf⟩ := h1
    exact isRow_of (Value.int .i8) (fun n => (Lit.int .i8 n).wf = true) 0 Try.underlying22 (by kernel_rfl) hf (fun n v z hz => by obtain ⟨u, h1, _, h3⟩ := DataW.trod_int Try.underlying37 hz; exact ⟨u, by simpa using h1, h3⟩)
  clear hA0 hval0
  refine (walk a0 a1 len1 cap1 z1 W w1).mono fun e W' ⟨he, bel⟩ => ?_
  subst he
  exact ⟨_, rfl, _, _, _, [], _, [], hW', trodAll_mk1 (shut_bool Try.underlying4 _), (trodAll_cons_mk (shut_bool Try.underlying4 _) (trodAll_cons_mk (Below.trod laidOut (by kernel_rfl) (of_decide_eq_true (by kernel_rfl)) k1 bel lt1) trodAll_mk0)), rfl, bel.frame _, fun h => by cases h⟩

theorem over : Rows.fnStringAdditionChainClosedFormRow.holds Try.pinned (OpenSpec.ofChange Rows.fnStringAdditionChainClosedFormSpec) :=
  OpenClaim.holds_of_wide 3 Try.f3 rfl rfl rfl rfl rfl rfl rfl ⟨rfl, rfl, rfl, rfl, rfl⟩ rfl rfl rfl rfl rfl (by kernel_rfl) Try.func3 (by kernel_rfl)
    (of_decide_eq_true (by kernel_rfl)) (by unfold Func.isWrapper; first | (rw [if_pos (by decide +kernel)]; kernel_rfl) | (rw [if_neg (by decide +kernel)]; exact ⟨rfl, rfl⟩))
    (fun os started H enc _ => lifted os started H enc)

/-- THE STATEMENT -/
theorem proved : Rows.FnStringAdditionChainClosedFormSaid := over
#print axioms proved
end Go.Proofs.Ytbmmmgccmkompad.fnStringAdditionChainClosedForm
