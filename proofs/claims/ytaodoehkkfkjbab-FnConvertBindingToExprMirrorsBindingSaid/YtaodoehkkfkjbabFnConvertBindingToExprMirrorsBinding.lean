/-
  For every slice of words the law FnConvertBindingToExprMirrorsBinding returns true and leaves its argument as it was; no condition.
  The frame of this text was written by the kit's program proof-skeleton.mjs for this statement; the walk and its lemmas are the prover's.
-/
import Derived.Test.YtaodoehkkfkjbabRows
import Derived.WalkKit
import Derived.ProofKit
import Derived.OpenShut
import Derived.Test.YtaodoehkkfkjbabSlW
import Derived.Test.YtaodoehkkfkjbabCbA
import Derived.Test.YtaodoehkkfkjbabCbW
import Derived.Test.YtaodoehkkfkjbabCbR
import Derived.Test.YtaodoehkkfkjbabCbK
import Derived.Test.YtaodoehkkfkjbabCbB
import Derived.Test.YtaodoehkkfkjbabCbC
import Derived.Test.YtaodoehkkfkjbabCbD
import Derived.Test.YtaodoehkkfkjbabCbO
import Derived.Test.YtaodoehkkfkjbabCbP
import Derived.Test.YtaodoehkkfkjbabCbQ
import Derived.Test.YtaodoehkkfkjbabCbS
import Derived.Test.YtaodoehkkfkjbabCbF
import Derived.Test.YtaodoehkkfkjbabCbG
import Derived.Test.YtaodoehkkfkjbabCbT
import Derived.Test.YtaodoehkkfkjbabCbU
import Derived.Test.YtaodoehkkfkjbabCbH
import Derived.Outline
import Derived.DataReads
import Derived.LoopTactic
import Derived.OwnWalk
import Derived.Laws.OwnMore
import Derived.BigQuiet
import Derived.Deep.QuietTactic
import Derived.ShutString
import Derived.ChangeOld
import Derived.Below
import Derived.WalkLawsBesides
import Derived.Deep.Slices
import Derived.Laws.Cover2
namespace Go.Proofs.Ytaodoehkkfkjbab.fnConvertBindingToExprMirrorsBinding
open Go.ChangeShapes Go.WideShapes Go.ChangeAt Go.RowKit
open Go.ChangeMaps (open_string shut_string)
open Go.Deep (open_slice1)
set_option linter.unusedVariables false

theorem own : ownKnob Try.prog.godebug = none := by kernel_rfl
theorem laidOut : laidOutB Try.prog = true := by kernel_rfl

def IsRow {α : Type} (φ : α → Value) (ok : α → Prop) (w : World) (a : Option Addr) (len cap : Nat) (zs : List α) : Prop :=
  (a = none ∧ len = 0 ∧ cap = 0 ∧ zs = []) ∨
  ∃ x, a = some x ∧ len ≤ cap ∧ cap ≤ maxLen ∧ zs.length = len ∧ (∀ i (h : i < zs.length), w.cell? (x.add i) = some (φ zs[i])) ∧ ∀ n ∈ zs, ok n

theorem isRow_of {α : Type} {H : Type} {enc : TypeId × Value → H} {P : Program} {w : World} {held : Bool} {t e : TypeId} {fuel : Nat} {a : Option Addr} {len cap : Nat} {y : DataW H × List MemPlace} (φ : α → Value) (ok : α → Prop) (d0 : α) (ht : P.underlying t = some (.slice e)) (hc : P.cellsOf e = 1)
    (h : DataW.trod enc P w 0 (fun _ => true) held fuel t (Value.slice a len cap).cells.toList = some y)
    (each : ∀ (n : Nat) (v : Value) (z : DataW H × List MemPlace), DataW.trod enc P w 0 (fun _ => true) held n e [v] = some z → ∃ u, v = φ u ∧ ok u) : ∃ zs, IsRow φ ok w a len cap zs := by
  rcases open_slice1 ht hc h with ⟨hcs, _⟩ | ⟨x, l, c, m, n, V, D, Pl, hcs, _, hl, hm, hmm, hy, hx⟩
  · simp [Value.cells] at hcs
    obtain ⟨rfl, rfl, rfl⟩ := hcs
    exact ⟨[], .inl ⟨rfl, rfl, rfl, rfl⟩⟩
  · simp [Value.cells] at hcs
    obtain ⟨rfl, rfl, rfl⟩ := hcs
    simp only [if_true] at hmm
    subst hmm
    have hex : ∀ i, ∃ u, i < len → V i = φ u ∧ ok u := by
      intro i
      by_cases hi : i < len
      · obtain ⟨u, h1, h2⟩ := each n (V i) _ (hx i (by omega)).2
        exact ⟨u, fun _ => ⟨h1, h2⟩⟩
      · exact ⟨d0, fun h => absurd h hi⟩
    refine ⟨(List.range len).map fun i => Classical.choose (hex i), .inr ⟨x, rfl, hl, hm, by simp, ?_, ?_⟩⟩
    · intro i hi
      simp at hi
      rw [(hx i (by omega)).1, (Classical.choose_spec (hex i) hi).1]
      simp
    · intro u hu
      simp at hu
      obtain ⟨i, hi, rfl⟩ := hu
      exact (Classical.choose_spec (hex i) hi).2

theorem block_lt {w : World} {a : Addr} {v : Value} (h : w.cell? a = some v) : a.block < w.heap.size := by
  rcases Nat.lt_or_ge a.block w.heap.size with hlt | hge
  · exact hlt
  · simp [World.cell?, Array.getElem?_eq_none hge] at h
theorem sl_of_row {α : Type} {φ : α → Value} {ok : α → Prop} {w : World} {a : Option Addr} {len cap : Nat} {zs : List α} (h : IsRow φ ok w a len cap zs) : Sl w w.heap.size a len (zs.map φ) := by
  rcases h with ⟨rfl, rfl, rfl, rfl⟩ | ⟨x, rfl, _, _, hl, hc, _⟩
  · exact Sl.empty
  · refine ⟨by simpa using hl, fun hn => ?_⟩
    have h0 := hc 0 (by omega)
    have hx : x.add 0 = x := by simp [Addr.add]
    rw [hx] at h0
    have hs := World.cell?_spot h0
    have hb := block_lt h0
    obtain ⟨b, off, sp⟩ := x
    simp at hs
    subst hs
    refine ⟨b, off, rfl, hb, fun j u hu => ?_⟩
    simp at hu
    obtain ⟨y, hy, rfl⟩ := hu
    have hj : j < zs.length := (List.getElem?_eq_some_iff.1 hy).1
    have := hc j hj
    rw [(List.getElem?_eq_some_iff.1 hy).2] at this
    rw [← this]
    unfold Addr.add
    split
    · rename_i h; simp [h]
    · rfl
theorem len_le {α : Type} {φ : α → Value} {ok : α → Prop} {w : World} {a : Option Addr} {len cap : Nat} {zs : List α} (h : IsRow φ ok w a len cap zs) : len ≤ 9223372036854775807 := by
  rcases h with ⟨rfl, rfl, rfl, rfl⟩ | ⟨x, rfl, h1, h2, _⟩
  · omega
  · unfold maxLen at h2; omega
theorem wf_u32 {z : Int} (h : (Lit.int .u32 z).wf = true) : 0 ≤ z ∧ z < 4294967296 := by
  have h1 : IntKind.u32.min = 0 := rfl
  have h2 : IntKind.u32.max = 4294967295 := rfl
  simp [Lit.wf, h1, h2] at h; omega
/-- The row's words, as whole numbers. -/
theorem row_words {w : World} {a : Option Addr} {len cap : Nat} {zs : List Int} (h : IsRow (Value.int .u32) (fun n => (Lit.int .u32 n).wf = true) w a len cap zs) : ∃ ts : List Nat, Sl w w.heap.size a len (words ts) ∧ ∀ t ∈ ts, t < 4294967296 := by
  have hz : ∀ z ∈ zs, 0 ≤ z ∧ z < 4294967296 := by
    rcases h with ⟨_, _, _, rfl⟩ | ⟨_, _, _, _, _, _, h⟩
    · intro z hz; cases hz
    · exact fun z hz => wf_u32 (h z hz)
  refine ⟨zs.map Int.toNat, ?_, fun t ht => ?_⟩
  · have e : words (zs.map Int.toNat) = zs.map (Value.int .u32) := by
      unfold words
      rw [List.map_map]
      exact List.map_congr_left fun z hzm => by have := hz z hzm; show Value.int .u32 ((z.toNat : Nat) : Int) = _; rw [Int.toNat_of_nonneg this.1]
    rw [e]; exact sl_of_row h
  · simp at ht
    obtain ⟨z, hzm, rfl⟩ := ht
    have := hz z hzm; omega
set_option maxRecDepth 100000 in
theorem bytes_any (A : Option Addr) (n c : Nat) (w : World) (h1 : n ≤ 9223372036854775807) :
    Calls Try.prog 4 #[.slice A n c] w fun e w' => ∃ b, e = .returned (.bool b) ∧ w = w' := by
  go_enter Try.func4, Try.ntmps4
  go_wp2_with fail
  all_goals (go_ret; exact ⟨_, rfl, rfl⟩)

set_option maxRecDepth 100000 in
set_option maxHeartbeats 4000000 in
theorem walk (a0 : Option Addr) (len0 cap0 : Nat) (z0 : List Int) (w : World) (w0 : IsRow (Value.int .u32) (fun n => (Lit.int .u32 n).wf = true) w a0 len0 cap0 z0) :
    Calls Try.prog 3 #[.slice a0 len0 cap0] w fun e w' => e = .returned (.bool true) ∧ Below w.heap.size w w' := by
  have l0 := len_le w0
  obtain ⟨ts, s0, hz⟩ := row_words w0
  clear w0
  have HZ := Lib.hid hz
  have S0 := Lib.hid s0
  clear hz s0
  generalize len0 = n at *
  go_enter Try.func3, Try.ntmps3
  go_wp2_with fail
  refine (bytes_any a0 n cap0 w l0).mono ?_
  rintro e w1 ⟨b, rfl, rfl⟩
  cases b
  · go_wp2_with fail
    go_ret
    exact ⟨rfl, Below.refl _ _⟩
  by_cases hbig : 8192 < n
  · go_wp2_with fail
    go_ret
    exact ⟨rfl, Below.refl _ _⟩
  have hn : n ≤ 8192 := by omega
  clear hbig l0
  go_wp2_with fail
  obtain ⟨w1, hw1⟩ : ∃ w1, w1 = w.alloc (.cells #[.slice a0 n cap0, .int .i64 0, .slice none 0 0] 26) := ⟨_, rfl⟩
  rw [← hw1]
  have ps1 : PSt w.heap.size w.heap.size a0 n cap0 0 [] w1 := by rw [hw1]; exact ⟨none, 0, Bk.new _ _ _, World.ownsRow_nil _ _ _ _, Nat.le_refl _⟩
  have s1 : Sl w1 w.heap.size a0 n (words ts) := by rw [hw1]; exact S0.out.below ((Below.refl _ _).alloc (Nat.le_refl _) _)
  have L1 : Hid (Below w.heap.size w w1) := by rw [hw1]; exact Lib.hid ((Below.refl _ _).alloc (Nat.le_refl _) _)
  refine (parse_self n cap0 w.heap.size a0 ts HZ.out (by omega) n w.heap.size 0 [] w1 (by omega) (by omega) ps1 s1 (by simp; omega)).mono ?_
  rintro e w2 ⟨T, g, ws, pos', rfl, hp1, hp2, hws, hst, hk, hb, hcv⟩
  have L2 := Lib.hid (L1.out.trans (hb.mono (Nat.le_refl _)))
  have zz : w1.heap.size ≤ w2.heap.size := hb.size
  have wl : ws.length ≤ 900000 := by omega
  have CV := hcv
  have ST := hst
  have WL := Lib.hid wl
  have ZZ := Lib.hid zz
  clear hp1 hp2 hws hst hk hb hcv hw1 ps1 s1 S0 HZ L1 zz wl
  rw [List.length_nil]
  go_wp2_with fail
  have CW : Hid (∀ w3, AgreeT w1.heap.size w2.heap.size w2 w3 → w2.heap.size ≤ w3.heap.size → Calls Try.prog 6 #[.agg #[.iface T (ptr g), .int .i32 0], .nilFunc] w3 (Cvd w1.heap.size w2.heap.size 0 ws w3)) := Lib.hid CV.out
  refine (CW.out _ (agreeT_alloc _ _) (by simp)).mono ?_
  rintro e w4 ⟨T2, g2, rfl, hb4, hT2, hser⟩
  obtain ⟨w3, hw3⟩ : ∃ w3, w3 = w2.alloc (.cells #[.iface T (ptr g), .int .i32 0] 32) := ⟨_, rfl⟩
  rw [← hw3] at hb4 hser
  have B23 : Below w2.heap.size w2 w3 := by rw [hw3]; exact (Below.refl _ _).alloc (Nat.le_refl _) _
  have B24 := Lib.hid (B23.trans (hb4.mono B23.size))
  have SR : Hid (Ser w1.heap.size w2.heap.size w3.heap.size w4.heap.size w4 (.iface T2 (ptr g2)) 0 ws) := hser
  have z34 := Lib.hid hb4.size
  have z23 := Lib.hid B23.size
  clear hb4 hser hT2 B23 hw3 CV CW
  go_wp2_with fail
  obtain ⟨w5, hw5⟩ : ∃ w5, w5 = w4.alloc (.cells #[.iface T2 (ptr g2), .int .i32 0] 37) := ⟨_, rfl⟩
  have B45 : Hid (Below w4.heap.size w4 w5) := by rw [hw5]; exact Lib.hid ((Below.refl _ _).alloc (Nat.le_refl _) _)
  rw [← hw5]
  have z45 := B45.out.size
  have SW : Hid (Calls Try.prog 7 #[.agg #[.iface T2 (ptr g2), .int .i32 0], .slice none 0 0] w5 fun e w' => ∃ a k, e = .returned (.tuple #[.slice a ws.length k, .bool true]) ∧ w'.ownsRow w5.heap.size 42 1 (.slice a ws.length k) ws.length (words ws) ∧ Below w5.heap.size w5 w') :=
    Lib.hid (SR.out w5.heap.size none 0 [] w5 ⟨by have := z23.out; have := z34.out; omega, agreeT_below B45.out (by have := z23.out; have := z34.out; omega)⟩ (by omega) (Nat.le_refl _) (agreeT_below B45.out (by omega)) (World.ownsRow_nil _ _ _ _) rfl (by have := WL.out; simp; omega))
  clear hw5 SR
  refine SW.out.mono ?_
  rintro e w6 ⟨a, k, rfl, ho, hb6⟩
  have B26 := Lib.hid (B24.out.trans ((B45.out.trans (hb6.mono z45)).mono B24.out.size))
  obtain ⟨va, vc, hP, hown, -⟩ := ST.out
  rw [List.nil_append] at hP hown
  have hP6 := hP.later B26.out
  have s1 := Lib.hid (sl_own ho (words_len ws))
  have s2 := Lib.hid (sl_own (own_below hown B26.out) (words_len ws))
  have c2 : w6.cell? ⟨w.heap.size, 2, none⟩ = some (.slice va ws.length vc) := hP6.cell 2
  have zP := hP6.lt
  clear ho hb6 hown hP hP6 SW ST z23 z34 z45 B45 B24
  go_wp2_with fail
  refine (eq_words a va ws.length k vc ws w6 s1.out s2.out (by have := WL.out; omega)).mono ?_
  rintro e w7 ⟨rfl, q, rfl⟩
  go_wp2_with fail
  go_ret
  exact ⟨rfl, below_drewN (L2.out.trans (B26.out.mono L2.out.size)) q⟩

/-! ### THE ROW's STEP: WRITTEN OUT: LEAVE IT -/
set_option maxRecDepth 100000 in
theorem lifted (os : Os) (started : os.Started) (H : Type) (enc : TypeId × Value → H) :
    ReturnsInHanded {} Try.checked os 3 .any (Rows.fnConvertBindingToExprMirrorsBindingSpec.pre6 enc Try.prog Try.f3 Rows.fnConvertBindingToExprMirrorsBindingRow.domain false) (Rows.fnConvertBindingToExprMirrorsBindingSpec.post enc Try.prog Try.f3 false true false false) := by
  refine returnsInHanded_of_change (C := Try.checked) own started (by kernel_rfl) Try.func3
    (ChangeSpec.witness6 (enc := enc) (C := Try.checked) false ⟨#[], #[.slice none 0 0], []⟩ 8 (by kernel_rfl) (by kernel_rfl) (by kernel_rfl) (by kernel_rfl)) ?_
  intro W base args ds gs before hval0 hW hcnd _
  have hval : ∀ (j : Nat) t v, Try.f3.params[j]? = some t → args[j]? = some v → Value.okWide Try.prog W .any base t v := hval0
  have hW' := hW
  obtain ⟨p, q, hA0, hV, rfl, hfz, hnd⟩ := hW
  have hA : DataW.TrodAll enc Try.prog W 0 (fun _ => true) true Try.f3.params.toList args.toList ds p := hA0
  rw [Try.params3] at hA hval
  obtain ⟨v0, vs0, d0, ds0, p0, q0, hargs, rfl, rfl, h0, r0⟩ := trodAll_cons hA
  obtain ⟨rfl, rfl, rfl⟩ := trodAll_nil r0
  obtain rfl : args = #[v0] := by cases args; simp_all
  obtain ⟨rfl, rfl⟩ := trodVars_none hV
  obtain ⟨a0, len0, cap0, rfl⟩ := okWide_slice Try.underlying22 (hval 0 22 v0 rfl rfl)
  have k0 := h0
  have lt0 : ∀ x ∈ p0, x.block < W.heap.size := by obtain ⟨m, hm⟩ := k0; exact DataW.trod_lt m _ _ _ hm
  obtain ⟨z0, w0⟩ : ∃ zs, IsRow (Value.int .u32) (fun n => (Lit.int .u32 n).wf = true) W a0 len0 cap0 zs := by
    obtain ⟨fuel, hf⟩ := h0
    exact isRow_of (Value.int .u32) (fun n => (Lit.int .u32 n).wf = true) 0 Try.underlying22 (by kernel_rfl) hf (fun n v z hz => by obtain ⟨u, h1, _, h3⟩ := DataW.trod_int Try.underlying42 hz; exact ⟨u, by simpa using h1, h3⟩)
  clear hA0 hval0
  refine (walk a0 len0 cap0 z0 W w0).mono fun e W' ⟨he, bel⟩ => ?_
  subst he
  exact ⟨_, rfl, _, _, _, [], _, [], hW', trodAll_mk1 (shut_bool Try.underlying4 _), (trodAll_cons_mk (Below.trod laidOut (by kernel_rfl) (of_decide_eq_true (by kernel_rfl)) k0 bel lt0) trodAll_mk0), rfl, bel.frame _, fun h => by cases h⟩

theorem over : Rows.fnConvertBindingToExprMirrorsBindingRow.holds Try.pinned (OpenSpec.ofChange Rows.fnConvertBindingToExprMirrorsBindingSpec) :=
  OpenClaim.holds_of_wide 3 Try.f3 rfl rfl rfl rfl rfl rfl rfl ⟨rfl, rfl, rfl, rfl, rfl⟩ rfl rfl rfl rfl rfl (by kernel_rfl) Try.func3 (by kernel_rfl)
    (of_decide_eq_true (by kernel_rfl)) (by unfold Func.isWrapper; first | (rw [if_pos (by decide +kernel)]; kernel_rfl) | (rw [if_neg (by decide +kernel)]; exact ⟨rfl, rfl⟩))
    (fun os started H enc _ => lifted os started H enc)

/-- THE STATEMENT -/
theorem proved : Rows.FnConvertBindingToExprMirrorsBindingSaid := over
#print axioms proved
end Go.Proofs.Ytaodoehkkfkjbab.fnConvertBindingToExprMirrorsBinding
