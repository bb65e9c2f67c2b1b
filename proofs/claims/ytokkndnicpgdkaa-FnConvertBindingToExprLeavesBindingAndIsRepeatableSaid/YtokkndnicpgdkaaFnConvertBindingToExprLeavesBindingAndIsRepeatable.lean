/-
  For every slice of words the law FnConvertBindingToExprLeavesBindingAndIsRepeatable returns true and leaves its argument as it was; no condition.
  The frame of this text was written by the kit's program proof-skeleton.mjs for this statement; the walk and its lemmas are the prover's.
-/
import Derived.Test.YtokkndnicpgdkaaRows
import Derived.WalkKit
import Derived.ProofKit
import Derived.OpenShut
import Derived.Test.YtokkndnicpgdkaaSlW
import Derived.Test.YtokkndnicpgdkaaCbW
import Derived.Test.YtokkndnicpgdkaaLbA
import Derived.Test.YtokkndnicpgdkaaLbR
import Derived.Test.YtokkndnicpgdkaaLbE
import Derived.Test.YtokkndnicpgdkaaLbB
import Derived.Test.YtokkndnicpgdkaaLbK
import Derived.Test.YtokkndnicpgdkaaLbJ
import Derived.Test.YtokkndnicpgdkaaLbO
import Derived.Test.YtokkndnicpgdkaaLbH
import Derived.Test.YtokkndnicpgdkaaLbZ
import Derived.Test.YtokkndnicpgdkaaLbY
import Derived.Outline
import Derived.DataReads
import Derived.LoopTactic
import Derived.OwnWalk
import Derived.Laws.OwnMore
import Derived.BigQuiet
import Derived.Deep.QuietTactic
import Derived.ShutString
import Derived.ChangeOld
import Derived.Below
import Derived.WalkLawsBesides
import Derived.Deep.Slices
import Derived.Laws.Cover2
namespace Go.Proofs.Ytokkndnicpgdkaa.fnConvertBindingToExprLeavesBindingAndIsRepeatable
open Go.ChangeShapes Go.WideShapes Go.ChangeAt Go.RowKit
open Go.ChangeMaps (open_string shut_string)
open Go.Deep (open_slice1)
set_option linter.unusedVariables false

theorem own : ownKnob Try.prog.godebug = none := by kernel_rfl
theorem laidOut : laidOutB Try.prog = true := by kernel_rfl

def IsRow {α : Type} (φ : α → Value) (ok : α → Prop) (w : World) (a : Option Addr) (len cap : Nat) (zs : List α) : Prop :=
  (a = none ∧ len = 0 ∧ cap = 0 ∧ zs = []) ∨
  ∃ x, a = some x ∧ len ≤ cap ∧ cap ≤ maxLen ∧ zs.length = len ∧ (∀ i (h : i < zs.length), w.cell? (x.add i) = some (φ zs[i])) ∧ ∀ n ∈ zs, ok n

theorem isRow_of {α : Type} {H : Type} {enc : TypeId × Value → H} {P : Program} {w : World} {held : Bool} {t e : TypeId} {fuel : Nat} {a : Option Addr} {len cap : Nat} {y : DataW H × List MemPlace} (φ : α → Value) (ok : α → Prop) (d0 : α) (ht : P.underlying t = some (.slice e)) (hc : P.cellsOf e = 1)
    (h : DataW.trod enc P w 0 (fun _ => true) held fuel t (Value.slice a len cap).cells.toList = some y)
    (each : ∀ (n : Nat) (v : Value) (z : DataW H × List MemPlace), DataW.trod enc P w 0 (fun _ => true) held n e [v] = some z → ∃ u, v = φ u ∧ ok u) : ∃ zs, IsRow φ ok w a len cap zs := by
  rcases open_slice1 ht hc h with ⟨hcs, _⟩ | ⟨x, l, c, m, n, V, D, Pl, hcs, _, hl, hm, hmm, hy, hx⟩
  · simp [Value.cells] at hcs
    obtain ⟨rfl, rfl, rfl⟩ := hcs
    exact ⟨[], .inl ⟨rfl, rfl, rfl, rfl⟩⟩
  · simp [Value.cells] at hcs
    obtain ⟨rfl, rfl, rfl⟩ := hcs
    simp only [if_true] at hmm
    subst hmm
    have hex : ∀ i, ∃ u, i < len → V i = φ u ∧ ok u := by
      intro i
      by_cases hi : i < len
      · obtain ⟨u, h1, h2⟩ := each n (V i) _ (hx i (by omega)).2
        exact ⟨u, fun _ => ⟨h1, h2⟩⟩
      · exact ⟨d0, fun h => absurd h hi⟩
    refine ⟨(List.range len).map fun i => Classical.choose (hex i), .inr ⟨x, rfl, hl, hm, by simp, ?_, ?_⟩⟩
    · intro i hi
      simp at hi
      rw [(hx i (by omega)).1, (Classical.choose_spec (hex i) hi).1]
      simp
    · intro u hu
      simp at hu
      obtain ⟨i, hi, rfl⟩ := hu
      exact (Classical.choose_spec (hex i) hi).2

theorem block_lt {w : World} {a : Addr} {v : Value} (h : w.cell? a = some v) : a.block < w.heap.size := by
  rcases Nat.lt_or_ge a.block w.heap.size with hlt | hge
  · exact hlt
  · simp [World.cell?, Array.getElem?_eq_none hge] at h
theorem sl_of_row {α : Type} {φ : α → Value} {ok : α → Prop} {w : World} {a : Option Addr} {len cap : Nat} {zs : List α} (h : IsRow φ ok w a len cap zs) : Sl w w.heap.size a len (zs.map φ) := by
  rcases h with ⟨rfl, rfl, rfl, rfl⟩ | ⟨x, rfl, _, _, hl, hc, _⟩
  · exact Sl.empty
  · refine ⟨by simpa using hl, fun hn => ?_⟩
    have h0 := hc 0 (by omega)
    have hx : x.add 0 = x := by simp [Addr.add]
    rw [hx] at h0
    have hs := World.cell?_spot h0
    have hb := block_lt h0
    obtain ⟨b, off, sp⟩ := x
    simp at hs
    subst hs
    refine ⟨b, off, rfl, hb, fun j u hu => ?_⟩
    simp at hu
    obtain ⟨y, hy, rfl⟩ := hu
    have hj : j < zs.length := (List.getElem?_eq_some_iff.1 hy).1
    have := hc j hj
    rw [(List.getElem?_eq_some_iff.1 hy).2] at this
    rw [← this]
    unfold Addr.add
    split
    · rename_i h; simp [h]
    · rfl
theorem len_le {α : Type} {φ : α → Value} {ok : α → Prop} {w : World} {a : Option Addr} {len cap : Nat} {zs : List α} (h : IsRow φ ok w a len cap zs) : len ≤ 9223372036854775807 := by
  rcases h with ⟨rfl, rfl, rfl, rfl⟩ | ⟨x, rfl, h1, h2, _⟩
  · omega
  · unfold maxLen at h2; omega
theorem wf_u32 {z : Int} (h : (Lit.int .u32 z).wf = true) : 0 ≤ z ∧ z < 4294967296 := by
  have h1 : IntKind.u32.min = 0 := rfl
  have h2 : IntKind.u32.max = 4294967295 := rfl
  simp [Lit.wf, h1, h2] at h; omega
/-- The row's words, as whole numbers. -/
theorem row_words {w : World} {a : Option Addr} {len cap : Nat} {zs : List Int} (h : IsRow (Value.int .u32) (fun n => (Lit.int .u32 n).wf = true) w a len cap zs) : ∃ ts : List Nat, Sl w w.heap.size a len (words ts) ∧ ∀ t ∈ ts, t < 4294967296 := by
  have hz : ∀ z ∈ zs, 0 ≤ z ∧ z < 4294967296 := by
    rcases h with ⟨_, _, _, rfl⟩ | ⟨_, _, _, _, _, _, h⟩
    · intro z hz; cases hz
    · exact fun z hz => wf_u32 (h z hz)
  refine ⟨zs.map Int.toNat, ?_, fun t ht => ?_⟩
  · have e : words (zs.map Int.toNat) = zs.map (Value.int .u32) := by
      unfold words
      rw [List.map_map]
      exact List.map_congr_left fun z hzm => by have := hz z hzm; show Value.int .u32 ((z.toNat : Nat) : Int) = _; rw [Int.toNat_of_nonneg this.1]
    rw [e]; exact sl_of_row h
  · simp at ht
    obtain ⟨z, hzm, rfl⟩ := ht
    have := hz z hzm; omega
set_option maxRecDepth 100000 in
theorem bytes_any (A : Option Addr) (n c : Nat) (w : World) (h1 : n ≤ 9223372036854775807) :
    Calls Try.prog 4 #[.slice A n c] w fun e w' => ∃ b, e = .returned (.bool b) ∧ w = w' := by
  go_enter Try.func4, Try.ntmps4
  go_wp2_with fail
  all_goals (go_ret; exact ⟨_, rfl, rfl⟩)

set_option maxRecDepth 100000 in
set_option maxHeartbeats 4000000 in
theorem walk (a0 : Option Addr) (len0 cap0 : Nat) (z0 : List Int) (w : World) (w0 : IsRow (Value.int .u32) (fun n => (Lit.int .u32 n).wf = true) w a0 len0 cap0 z0) :
    Calls Try.prog 3 #[.slice a0 len0 cap0] w fun e w' => e = .returned (.bool true) ∧ Below w.heap.size w w' := by
  have l0 := len_le w0
  obtain ⟨ts, s0, hz⟩ := row_words w0
  clear w0
  have HZ := Lib.hid hz
  have S0 := Lib.hid s0
  clear hz s0
  generalize len0 = n at *
  go_enter Try.func3, Try.ntmps3
  go_wp2_with fail
  refine (bytes_any a0 n cap0 w l0).mono ?_
  rintro e w1 ⟨b, rfl, rfl⟩
  cases b
  · go_wp2_with fail
    go_ret
    exact ⟨rfl, Below.refl _ _⟩
  by_cases hbig : 8192 < n
  · go_wp2_with fail
    go_ret
    exact ⟨rfl, Below.refl _ _⟩
  have hn : n ≤ 8192 := by omega
  clear hbig l0
  go_wp2_with fail
  obtain ⟨w1, hw1⟩ : ∃ w1, w1 = w.alloc (.cells #[.slice a0 n cap0, .int .i64 0, .slice none 0 0] 26) := ⟨_, rfl⟩
  rw [← hw1]
  have ps1 : PSt w.heap.size w.heap.size a0 n cap0 0 [] w1 := by rw [hw1]; exact ⟨none, 0, Bk.new _ _ _, World.ownsRow_nil _ _ _ _, Nat.le_refl _⟩
  have s1 : Sl w1 w.heap.size a0 n (words ts) := by rw [hw1]; exact S0.out.below ((Below.refl _ _).alloc (Nat.le_refl _) _)
  have L1 : Hid (Below w.heap.size w w1) := by rw [hw1]; exact Lib.hid ((Below.refl _ _).alloc (Nat.le_refl _) _)
  refine (parse_self n cap0 w.heap.size a0 ts HZ.out (by omega) n w.heap.size 0 [] w1 (by omega) (by omega) ps1 s1 (by simp; omega)).mono ?_
  rintro e w2 ⟨T, g, ws, pos', rfl, hp1, hp2, hws, hst, hk, hb, hcv⟩
  have L2 := Lib.hid (L1.out.trans (hb.mono (Nat.le_refl _)))
  have zz : w1.heap.size ≤ w2.heap.size := hb.size
  have wl : ws.length ≤ 900000 := by omega
  have CV0 : Conv w1.heap.size w2.heap.size w2 (.iface T (ptr g)) 0 ws := hcv.out
  have ST := hst
  obtain ⟨fs, hfs, hfull⟩ := CV0.2.2
  have SB : Hid (∀ w', Below w2.heap.size w2 w' → Calls Try.prog 6 #[.agg #[.iface T (ptr g), .int .i32 0], .slice none 0 0] w' (fun e w'' => ∃ a k, e = .returned (.tuple #[.slice a ws.length k, .bool true]) ∧ w''.ownsRow w'.heap.size 48 1 (.slice a ws.length k) ws.length (words ws) ∧ Below w'.heap.size w' w'')) :=
    Lib.hid fun w' hb' => CV0.2.1 w'.heap.size none 0 [] w' hb'.size (Nat.le_refl _) (agreeT_below hb' (Nat.le_refl _)) (World.ownsRow_nil _ _ _ _) (by simp; omega)
  have FB : Hid (∀ w', Below w2.heap.size w2 w' → Calls Try.prog 7 #[.agg #[.iface T (ptr g), .int .i32 0], .slice none 0 0] w' (fun e w'' => ∃ a k, e = .returned (.tuple #[.slice a fs.length k, .bool true]) ∧ w''.ownsRow w'.heap.size 2 1 (.slice a fs.length k) fs.length (nums fs) ∧ Below w'.heap.size w' w'')) :=
    Lib.hid fun w' hb' => hfull w'.heap.size none 0 [] w' hb'.size (Nat.le_refl _) (agreeT_below hb' (Nat.le_refl _)) (World.ownsRow_nil _ _ _ _) (by simp; omega) (by omega)
  have CV : Hid (∀ w', Below w2.heap.size w2 w' → Calls Try.prog 8 #[.agg #[.iface T (ptr g), .int .i32 0], .nilFunc] w' (Cvd w1.heap.size w2.heap.size 0 ws w')) :=
    Lib.hid fun w' hb' => CV0.1 w' (agreeT_below hb' (Nat.le_refl _)) hb'.size
  have SE : Hid (∀ (T1 : TypeId) (g1 : Nat) (wa wb w' : World), Ser w1.heap.size w2.heap.size wa.heap.size wb.heap.size wb (.iface T1 (ptr g1)) 0 ws → w2.heap.size ≤ wb.heap.size → Below wb.heap.size wb w' → Calls Try.prog 9 #[.agg #[.iface T1 (ptr g1), .int .i32 0], .slice none 0 0] w' (fun e w'' => ∃ a k, e = .returned (.tuple #[.slice a ws.length k, .bool true]) ∧ w''.ownsRow w'.heap.size 48 1 (.slice a ws.length k) ws.length (words ws) ∧ Below w'.heap.size w' w'')) :=
    Lib.hid fun T1 g1 wa wb w' hs h0 hb' => hs.1 w'.heap.size none 0 [] w' ⟨by have := hb'.size; omega, agreeT_below hb' h0⟩ hb'.size (Nat.le_refl _) (agreeT_below hb' (Nat.le_refl _)) (World.ownsRow_nil _ _ _ _) rfl (by simp; omega)
  have WL := Lib.hid wl
  have FL := Lib.hid (show fs.length ≤ 20000000 by omega)
  clear hp1 hp2 hws hst hk hb hcv hw1 ps1 s1 S0 HZ L1 zz wl CV0 hfull hfs
  rw [List.length_nil]
  go_wp2_with fail
  refine (SB.out _ ((Below.refl _ _).alloc (Nat.le_refl _) _)).mono ?_
  rintro e w4 ⟨a4, k4, rfl, ho4, hb4⟩
  obtain ⟨w3, hw3⟩ : ∃ w3, w3 = w2.alloc (.cells #[.iface T (ptr g), .int .i32 0] 32) := ⟨_, rfl⟩
  rw [← hw3] at ho4 hb4
  have S23 : Hid (Below w2.heap.size w2 w3) := by rw [hw3]; exact Lib.hid ((Below.refl _ _).alloc (Nat.le_refl _) _)
  have X3 : Hid (Bk w3 w2.heap.size 32 #[.iface T (ptr g), .int .i32 0]) := by rw [hw3]; exact Lib.hid (Bk.new _ _ _)
  have S34 := Lib.hid hb4
  have M4 := Lib.hid (S23.out.trans (hb4.mono S23.out.size))
  have X4 := Lib.hid (X3.out.later hb4)
  have O4 := Lib.hid ho4
  have c0 : w4.cell? ⟨w2.heap.size, 0, none⟩ = some (.iface T (ptr g)) := X4.out.cell 0
  have c1 : w4.cell? ⟨w2.heap.size, 1, none⟩ = some (.int .i32 0) := X4.out.cell 1
  have z4 := X4.out.lt
  clear hw3 ho4 hb4 X3 S34
  go_wp2_with fail
  refine (FB.out w4 M4.out).mono ?_
  rintro e w5 ⟨a5, k5, rfl, ho5, hb5⟩
  have S45 := Lib.hid hb5
  have M5 := Lib.hid (M4.out.trans (hb5.mono M4.out.size))
  have X5 := Lib.hid (X4.out.later hb5)
  have O5 := Lib.hid ho5
  have c0 : w5.cell? ⟨w2.heap.size, 0, none⟩ = some (.iface T (ptr g)) := X5.out.cell 0
  have c1 : w5.cell? ⟨w2.heap.size, 1, none⟩ = some (.int .i32 0) := X5.out.cell 1
  have z5 := X5.out.lt
  clear ho5 hb5 X4 z4
  go_wp2_with fail
  refine (CV.out w5 M5.out).mono ?_
  rintro e w6 ⟨T1, g1, rfl, hb6, hT1, hs1⟩
  have S56 := Lib.hid hb6
  have M6 := Lib.hid (M5.out.trans (hb6.mono M5.out.size))
  have X6 := Lib.hid (X5.out.later hb6)
  have E6 : Hid (Ser w1.heap.size w2.heap.size w5.heap.size w6.heap.size w6 (.iface T1 (ptr g1)) 0 ws) := hs1
  have c0 : w6.cell? ⟨w2.heap.size, 0, none⟩ = some (.iface T (ptr g)) := X6.out.cell 0
  have c1 : w6.cell? ⟨w2.heap.size, 1, none⟩ = some (.int .i32 0) := X6.out.cell 1
  have z6 := X6.out.lt
  clear hs1 hb6 hT1 X5 z5
  go_wp2_with fail
  have S67' := Lib.hid ((Below.refl w6.heap.size w6).alloc (Nat.le_refl _) (.cells #[.iface T1 (ptr g1), .int .i32 0] 42))
  refine (CV.out _ (M6.out.trans (S67'.out.mono M6.out.size))).mono ?_
  rintro e w8 ⟨T2, g2, rfl, hb8, hT2, hs2⟩
  obtain ⟨w7, hw7⟩ : ∃ w7, w7 = w6.alloc (.cells #[.iface T1 (ptr g1), .int .i32 0] 42) := ⟨_, rfl⟩
  rw [← hw7] at hb8 hs2
  have S67 : Hid (Below w6.heap.size w6 w7) := by rw [hw7]; exact S67'
  have Y7 : Hid (Bk w7 w6.heap.size 42 #[.iface T1 (ptr g1), .int .i32 0]) := by rw [hw7]; exact Lib.hid (Bk.new _ _ _)
  have S78 := Lib.hid hb8
  have X7 := Lib.hid (X6.out.later S67.out)
  have X8 := Lib.hid (X7.out.later hb8)
  have Y8 := Lib.hid (Y7.out.later hb8)
  have M7 := Lib.hid (M6.out.trans (S67.out.mono M6.out.size))
  have M8 := Lib.hid (M7.out.trans (hb8.mono M7.out.size))
  have E8 : Hid (Ser w1.heap.size w2.heap.size w7.heap.size w8.heap.size w8 (.iface T2 (ptr g2)) 0 ws) := hs2
  have c0 : w8.cell? ⟨w2.heap.size, 0, none⟩ = some (.iface T (ptr g)) := X8.out.cell 0
  have c1 : w8.cell? ⟨w2.heap.size, 1, none⟩ = some (.int .i32 0) := X8.out.cell 1
  have z8 := X8.out.lt
  clear hs2 hb8 hT2 hw7 S67' X6 X7 Y7 z6
  go_wp2_with fail
  have S89' := Lib.hid ((Below.refl w8.heap.size w8).alloc (Nat.le_refl _) (.cells #[.iface T2 (ptr g2), .int .i32 0] 42))
  refine (FB.out _ (M8.out.trans (S89'.out.mono M8.out.size))).mono ?_
  rintro e wa ⟨a6, k6, rfl, ho6, hba⟩
  obtain ⟨w9, hw9⟩ : ∃ w9, w9 = w8.alloc (.cells #[.iface T2 (ptr g2), .int .i32 0] 42) := ⟨_, rfl⟩
  rw [← hw9] at hba ho6
  have S89 : Hid (Below w8.heap.size w8 w9) := by rw [hw9]; exact S89'
  have Z9 : Hid (Bk w9 w8.heap.size 42 #[.iface T2 (ptr g2), .int .i32 0]) := by rw [hw9]; exact Lib.hid (Bk.new _ _ _)
  have S9a := Lib.hid hba
  have Oa := Lib.hid ho6
  have Ya := Lib.hid ((Y8.out.later S89.out).later hba)
  have Za := Lib.hid (Z9.out.later hba)
  have S8a := Lib.hid (S89.out.trans (hba.mono S89.out.size))
  have S6a := Lib.hid (S67.out.trans ((S78.out.trans (S8a.out.mono S78.out.size)).mono S67.out.size))
  have d0 : wa.cell? ⟨w6.heap.size, 0, none⟩ = some (.iface T1 (ptr g1)) := Ya.out.cell 0
  have d1 : wa.cell? ⟨w6.heap.size, 1, none⟩ = some (.int .i32 0) := Ya.out.cell 1
  have zy := Ya.out.lt
  clear ho6 hba hw9 S89' X8 Y8 Z9 c0 c1 z8
  go_wp2_with fail
  refine (SE.out T1 g1 w5 w6 wa E6.out M6.out.size S6a.out).mono ?_
  rintro e wb ⟨ab, kb, rfl, hob, hbb⟩
  have Sab := Lib.hid hbb
  have Ob := Lib.hid hob
  have Yb := Lib.hid (Ya.out.later hbb)
  have Zb := Lib.hid (Za.out.later hbb)
  have S8b := Lib.hid (S8a.out.trans (hbb.mono S8a.out.size))
  have d0 : wb.cell? ⟨w8.heap.size, 0, none⟩ = some (.iface T2 (ptr g2)) := Zb.out.cell 0
  have d1 : wb.cell? ⟨w8.heap.size, 1, none⟩ = some (.int .i32 0) := Zb.out.cell 1
  have zb := Zb.out.lt
  clear hob hbb zy Ya Za
  go_wp2_with fail
  refine (SE.out T2 g2 w7 w8 wb E8.out M8.out.size S8b.out).mono ?_
  rintro e wc ⟨ac, kc, rfl, hoc, hbc⟩
  have Sbc := Lib.hid hbc
  have Oc := Lib.hid hoc
  have Yc := Lib.hid (Yb.out.later hbc)
  have Zc := Lib.hid (Zb.out.later hbc)
  have Tac := Lib.hid (Sab.out.trans (hbc.mono Sab.out.size))
  have T8c := Lib.hid (S8a.out.trans (Tac.out.mono S8a.out.size))
  have T6c := Lib.hid (S6a.out.trans (Tac.out.mono S6a.out.size))
  have T5c := Lib.hid (S56.out.trans (T6c.out.mono S56.out.size))
  have T4c := Lib.hid (S45.out.trans (T5c.out.mono S45.out.size))
  have T2c := Lib.hid (M4.out.trans (T4c.out.mono M4.out.size))
  obtain ⟨va, vc, hP, hown, -⟩ := ST.out
  rw [List.nil_append] at hP hown
  have HP := Lib.hid (hP.later T2c.out)
  have s1 := Lib.hid (sl_own (own_below O4.out T4c.out) (words_len ws))
  have s2 := Lib.hid (sl_own (own_below hown T2c.out) (words_len ws))
  have s3 := Lib.hid (own_below Oa.out Tac.out)
  have s4 := Lib.hid (own_below O5.out T5c.out)
  have s5 := Lib.hid (own_below Ob.out Sbc.out)
  have c2 : wc.cell? ⟨w.heap.size, 2, none⟩ = some (.slice va ws.length vc) := HP.out.cell 2
  have zP := HP.out.lt
  have h56 := Lib.hid S56.out.size
  have h78 := Lib.hid (show w6.heap.size ≤ w7.heap.size from S67.out.size)
  clear hoc hbc hP hown d0 d1 zb Yb Zb O4 O5 Oa Ob ST SB FB CV SE
  go_wp2_with fail
  refine (eq_words a4 va ws.length k4 vc ws wc s1.out s2.out (by have := WL.out; omega)).mono ?_
  rintro e wd ⟨rfl, q1, hwd⟩
  have Scd : Hid (Below wc.heap.size wc wd) := by rw [hwd]; exact Lib.hid (below_drewN (Below.refl _ _) _)
  clear hwd c2 zP
  go_wp2_with fail
  refine (eq_nums a6 a5 fs.length k6 k5 fs wd (sl_own (own_below s3.out Scd.out) (nums_len fs)) (sl_own (own_below s4.out Scd.out) (nums_len fs)) FL.out).mono ?_
  rintro e wf ⟨rfl, q2, hwf⟩
  have Sdf : Hid (Below wd.heap.size wd wf) := by rw [hwf]; exact Lib.hid (below_drewN (Below.refl _ _) _)
  have Tcf := Lib.hid (Scd.out.trans (Sdf.out.mono Scd.out.size))
  clear hwf
  go_wp2_with fail
  refine (eq_words ab ac ws.length kb kc ws wf (sl_own (own_below s5.out Tcf.out) (words_len ws)) (sl_own (own_below Oc.out Tcf.out) (words_len ws)) (by have := WL.out; omega)).mono ?_
  rintro e wg ⟨rfl, q3, hwg⟩
  have Sfg : Hid (Below wf.heap.size wf wg) := by rw [hwg]; exact Lib.hid (below_drewN (Below.refl _ _) _)
  have Tcg := Lib.hid (Tcf.out.trans (Sfg.out.mono Tcf.out.size))
  have Yg := Lib.hid (Yc.out.later Tcg.out)
  have Zg := Lib.hid (Zc.out.later Tcg.out)
  have d0 : wg.cell? ⟨w6.heap.size, 0, none⟩ = some (.iface T1 (ptr g1)) := Yg.out.cell 0
  have d1 : wg.cell? ⟨w6.heap.size, 1, none⟩ = some (.int .i32 0) := Yg.out.cell 1
  have d2 : wg.cell? ⟨w8.heap.size, 0, none⟩ = some (.iface T2 (ptr g2)) := Zg.out.cell 0
  have d3 : wg.cell? ⟨w8.heap.size, 1, none⟩ = some (.int .i32 0) := Zg.out.cell 1
  have zy := Yg.out.lt
  have zz := Zg.out.lt
  have T8g := Lib.hid (T8c.out.trans (Tcg.out.mono T8c.out.size))
  have T6g := Lib.hid (T6c.out.trans (Tcg.out.mono T6c.out.size))
  have T2g := Lib.hid (T2c.out.trans (Tcg.out.mono T2c.out.size))
  clear hwg s1 s2 s3 s4 s5
  go_wp2_with fail
  refine (Shp.twin (E6.out.2.agree (agreeT_below T6g.out (Nat.le_refl _))) (E8.out.2.agree (agreeT_below T8g.out (Nat.le_refl _))) rfl h78.out wg 0 0 (AgreeT.refl _ _ _) (AgreeT.refl _ _ _) T6g.out.size T8g.out.size).mono ?_
  rintro e wh ⟨rfl, hbh⟩
  have LL := Lib.hid (L2.out.trans ((T2g.out.trans (hbh.mono T2g.out.size)).mono L2.out.size))
  clear hbh
  go_wp2_with fail
  go_ret
  exact ⟨rfl, LL.out⟩

/-! ### THE ROW's STEP: WRITTEN OUT: LEAVE IT -/
set_option maxRecDepth 100000 in
theorem lifted (os : Os) (started : os.Started) (H : Type) (enc : TypeId × Value → H) :
    ReturnsInHanded {} Try.checked os 3 .any (Rows.fnConvertBindingToExprLeavesBindingAndIsRepeatableSpec.pre6 enc Try.prog Try.f3 Rows.fnConvertBindingToExprLeavesBindingAndIsRepeatableRow.domain false) (Rows.fnConvertBindingToExprLeavesBindingAndIsRepeatableSpec.post enc Try.prog Try.f3 false true false false) := by
  refine returnsInHanded_of_change (C := Try.checked) own started (by kernel_rfl) Try.func3
    (ChangeSpec.witness6 (enc := enc) (C := Try.checked) false ⟨#[], #[.slice none 0 0], []⟩ 8 (by kernel_rfl) (by kernel_rfl) (by kernel_rfl) (by kernel_rfl)) ?_
  intro W base args ds gs before hval0 hW hcnd _
  have hval : ∀ (j : Nat) t v, Try.f3.params[j]? = some t → args[j]? = some v → Value.okWide Try.prog W .any base t v := hval0
  have hW' := hW
  obtain ⟨p, q, hA0, hV, rfl, hfz, hnd⟩ := hW
  have hA : DataW.TrodAll enc Try.prog W 0 (fun _ => true) true Try.f3.params.toList args.toList ds p := hA0
  rw [Try.params3] at hA hval
  obtain ⟨v0, vs0, d0, ds0, p0, q0, hargs, rfl, rfl, h0, r0⟩ := trodAll_cons hA
  obtain ⟨rfl, rfl, rfl⟩ := trodAll_nil r0
  obtain rfl : args = #[v0] := by cases args; simp_all
  obtain ⟨rfl, rfl⟩ := trodVars_none hV
  obtain ⟨a0, len0, cap0, rfl⟩ := okWide_slice Try.underlying22 (hval 0 22 v0 rfl rfl)
  have k0 := h0
  have lt0 : ∀ x ∈ p0, x.block < W.heap.size := by obtain ⟨m, hm⟩ := k0; exact DataW.trod_lt m _ _ _ hm
  obtain ⟨z0, w0⟩ : ∃ zs, IsRow (Value.int .u32) (fun n => (Lit.int .u32 n).wf = true) W a0 len0 cap0 zs := by
    obtain ⟨fuel, hf⟩ := h0
    exact isRow_of (Value.int .u32) (fun n => (Lit.int .u32 n).wf = true) 0 Try.underlying22 (by kernel_rfl) hf (fun n v z hz => by obtain ⟨u, h1, _, h3⟩ := DataW.trod_int Try.underlying48 hz; exact ⟨u, by simpa using h1, h3⟩)
  clear hA0 hval0
  refine (walk a0 len0 cap0 z0 W w0).mono fun e W' ⟨he, bel⟩ => ?_
  subst he
  exact ⟨_, rfl, _, _, _, [], _, [], hW', trodAll_mk1 (shut_bool Try.underlying4 _), (trodAll_cons_mk (Below.trod laidOut (by kernel_rfl) (of_decide_eq_true (by kernel_rfl)) k0 bel lt0) trodAll_mk0), rfl, bel.frame _, fun h => by cases h⟩

theorem over : Rows.fnConvertBindingToExprLeavesBindingAndIsRepeatableRow.holds Try.pinned (OpenSpec.ofChange Rows.fnConvertBindingToExprLeavesBindingAndIsRepeatableSpec) :=
  OpenClaim.holds_of_wide 3 Try.f3 rfl rfl rfl rfl rfl rfl rfl ⟨rfl, rfl, rfl, rfl, rfl⟩ rfl rfl rfl rfl rfl (by kernel_rfl) Try.func3 (by kernel_rfl)
    (of_decide_eq_true (by kernel_rfl)) (by unfold Func.isWrapper; first | (rw [if_pos (by decide +kernel)]; kernel_rfl) | (rw [if_neg (by decide +kernel)]; exact ⟨rfl, rfl⟩))
    (fun os started H enc _ => lifted os started H enc)

/-- THE STATEMENT -/
theorem proved : Rows.FnConvertBindingToExprLeavesBindingAndIsRepeatableSaid := over
#print axioms proved
end Go.Proofs.Ytokkndnicpgdkaa.fnConvertBindingToExprLeavesBindingAndIsRepeatable
