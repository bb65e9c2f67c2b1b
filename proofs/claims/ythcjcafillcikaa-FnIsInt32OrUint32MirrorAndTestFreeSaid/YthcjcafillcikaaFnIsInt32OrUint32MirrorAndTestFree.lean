/-
  For every slice of bytes the law FnIsInt32OrUint32MirrorAndTestFree returns true and leaves its argument as it was; no condition.
  The frame of this text was written by the kit's program proof-skeleton.mjs for this statement; the walk and its lemmas are the prover's.
-/
import Derived.Test.YthcjcafillcikaaRows
import Derived.WalkKit
import Derived.ProofKit
import Derived.OpenShut
import Derived.Test.YthcjcafillcikaaSlW
import Derived.Test.YthcjcafillcikaaExtW
import Derived.Test.YthcjcafillcikaaI32
import Derived.Test.YthcjcafillcikaaBld
import Derived.Test.YthcjcafillcikaaBld6
import Derived.Test.YthcjcafillcikaaBld7
import Derived.Test.YthcjcafillcikaaBld4
import Derived.Test.YthcjcafillcikaaBldA
import Derived.Test.YthcjcafillcikaaCl294
import Derived.Outline
import Derived.DataReads
import Derived.Deep.QuietTactic
import Derived.BigQuiet
import Derived.ShutString
import Derived.ChangeOld
import Derived.Below
import Derived.WalkLawsBesides
import Derived.Deep.Slices
import Derived.Laws.Cover2
namespace Go.Proofs.Ythcjcafillcikaa.fnIsInt32OrUint32MirrorAndTestFree
open Go.ChangeShapes Go.WideShapes Go.ChangeAt Go.RowKit
open Go.ChangeMaps (open_string shut_string)
open Go.Deep (open_slice1)
set_option linter.unusedVariables false

theorem own : ownKnob Try.prog.godebug = none := by kernel_rfl
theorem laidOut : laidOutB Try.prog = true := by kernel_rfl

def IsRow {α : Type} (φ : α → Value) (ok : α → Prop) (w : World) (a : Option Addr) (len cap : Nat) (zs : List α) : Prop :=
  (a = none ∧ len = 0 ∧ cap = 0 ∧ zs = []) ∨
  ∃ x, a = some x ∧ len ≤ cap ∧ cap ≤ maxLen ∧ zs.length = len ∧ (∀ i (h : i < zs.length), w.cell? (x.add i) = some (φ zs[i])) ∧ ∀ n ∈ zs, ok n

theorem isRow_of {α : Type} {H : Type} {enc : TypeId × Value → H} {P : Program} {w : World} {held : Bool} {t e : TypeId} {fuel : Nat} {a : Option Addr} {len cap : Nat} {y : DataW H × List MemPlace} (φ : α → Value) (ok : α → Prop) (d0 : α) (ht : P.underlying t = some (.slice e)) (hc : P.cellsOf e = 1)
    (h : DataW.trod enc P w 0 (fun _ => true) held fuel t (Value.slice a len cap).cells.toList = some y)
    (each : ∀ (n : Nat) (v : Value) (z : DataW H × List MemPlace), DataW.trod enc P w 0 (fun _ => true) held n e [v] = some z → ∃ u, v = φ u ∧ ok u) : ∃ zs, IsRow φ ok w a len cap zs := by
  rcases open_slice1 ht hc h with ⟨hcs, _⟩ | ⟨x, l, c, m, n, V, D, Pl, hcs, _, hl, hm, hmm, hy, hx⟩
  · simp [Value.cells] at hcs
    obtain ⟨rfl, rfl, rfl⟩ := hcs
    exact ⟨[], .inl ⟨rfl, rfl, rfl, rfl⟩⟩
  · simp [Value.cells] at hcs
    obtain ⟨rfl, rfl, rfl⟩ := hcs
    simp only [if_true] at hmm
    subst hmm
    have hex : ∀ i, ∃ u, i < len → V i = φ u ∧ ok u := by
      intro i
      by_cases hi : i < len
      · obtain ⟨u, h1, h2⟩ := each n (V i) _ (hx i (by omega)).2
        exact ⟨u, fun _ => ⟨h1, h2⟩⟩
      · exact ⟨d0, fun h => absurd h hi⟩
    refine ⟨(List.range len).map fun i => Classical.choose (hex i), .inr ⟨x, rfl, hl, hm, by simp, ?_, ?_⟩⟩
    · intro i hi
      simp at hi
      rw [(hx i (by omega)).1, (Classical.choose_spec (hex i) hi).1]
      simp
    · intro u hu
      simp at hu
      obtain ⟨i, hi, rfl⟩ := hu
      exact (Classical.choose_spec (hex i) hi).2

theorem block_lt {w : World} {a : Addr} {v : Value} (h : w.cell? a = some v) : a.block < w.heap.size := by
  rcases Nat.lt_or_ge a.block w.heap.size with hlt | hge
  · exact hlt
  · simp [World.cell?, Array.getElem?_eq_none hge] at h
theorem sl_of_row {α : Type} {φ : α → Value} {ok : α → Prop} {w : World} {a : Option Addr} {len cap : Nat} {zs : List α} (h : IsRow φ ok w a len cap zs) : Sl w w.heap.size a len (zs.map φ) ∧ (a = none → len = 0 ∧ cap = 0) := by
  rcases h with ⟨rfl, rfl, rfl, rfl⟩ | ⟨x, rfl, _, _, hl, hc, _⟩
  · exact ⟨Sl.empty, fun _ => ⟨rfl, rfl⟩⟩
  · refine ⟨⟨by simpa using hl, fun hn => ?_⟩, fun h => by cases h⟩
    have h0 := hc 0 (by omega)
    have hx : x.add 0 = x := by simp [Addr.add]
    rw [hx] at h0
    have hs := World.cell?_spot h0
    have hb := block_lt h0
    obtain ⟨b, off, sp⟩ := x
    simp at hs
    subst hs
    refine ⟨b, off, rfl, hb, fun j u hu => ?_⟩
    simp at hu
    obtain ⟨y, hy, rfl⟩ := hu
    have hj : j < zs.length := (List.getElem?_eq_some_iff.1 hy).1
    have := hc j hj
    rw [(List.getElem?_eq_some_iff.1 hy).2] at this
    rw [← this]
    unfold Addr.add
    split
    · rename_i h; simp [h]
    · rfl
theorem len_le {α : Type} {φ : α → Value} {ok : α → Prop} {w : World} {a : Option Addr} {len cap : Nat} {zs : List α} (h : IsRow φ ok w a len cap zs) : len ≤ 9223372036854775807 := by
  rcases h with ⟨rfl, rfl, rfl, rfl⟩ | ⟨x, rfl, h1, h2, _⟩
  · omega
  · unfold maxLen at h2; omega
theorem below_drewN {B : Nat} {w w' : World} (h : Below B w w') (q : Nat) : Below B w (w'.drewN q) := ⟨h.1, h.2, h.3, h.4, h.5⟩
def Byt (Q : Prop) (w : World) (e : Ending) (w' : World) : Prop := ∃ b, e = .returned (.bool b) ∧ w = w' ∧ (b = true → Q)
set_option maxRecDepth 100000 in
theorem bytes_any (A : Option Addr) (n c : Nat) (w : World) (h1 : n ≤ 9223372036854775807) :
    Calls Try.prog 6 #[.slice A n c] w (Byt (n ≤ big20) w) := by
  go_enter Try.func6, Try.ntmps6
  go_wp2_with fail
  all_goals (go_ret; exact ⟨_, rfl, rfl, fun h => by first | (unfold big20; omega) | cases h⟩)
def Made (w : World) (n : Nat) (us : List Int) (e : Ending) (w' : World) : Prop := ∃ A c, e = .returned (.slice A n c) ∧ Sl w' w'.heap.size A n (us.map (Value.int .u8)) ∧ Below w.heap.size w w'
theorem cloned_made (A : Option Addr) (n c : Nat) (us : List Int) (w : World) (hs : Sl w w.heap.size A n (us.map (Value.int .u8))) (hn : n ≤ big20) (hnil : A = none → n = 0 ∧ c = 0) :
    Calls Try.prog 7 #[.slice A n c] w (Made w n us) :=
  (clone_u8 A n c us w hs hn hnil).mono fun e w' h => by
    rcases h with ⟨rfl, h1, rfl⟩ | ⟨_, h1, rfl⟩
    · obtain ⟨rfl, rfl⟩ := hnil rfl
      exact ⟨_, _, h1, hs, Below.refl _ _⟩
    · have := Sl.new w 5 (us.map (Value.int .u8)) (w.alloc (.cells (us.map (Value.int .u8)).toArray 5)).heap.size (by simp)
      rw [hs.1] at this
      exact ⟨_, _, h1, this, (Below.refl _ _).alloc (Nat.le_refl _) _⟩
theorem ok_u8 {w : World} {a : Option Addr} {len cap : Nat} {zs : List Int} (h : IsRow (Value.int .u8) (fun n => (Lit.int .u8 n).wf = true) w a len cap zs) : ∀ x ∈ zs, 0 ≤ x ∧ x ≤ 255 := by
  rcases h with ⟨rfl, rfl, rfl, rfl⟩ | ⟨x, rfl, _, _, hl, hc, hz⟩
  · simp
  · intro y hy; exact bounds_u8 (hz y hy)

set_option maxRecDepth 100000 in
set_option maxHeartbeats 2000000 in
theorem walk (a0 : Option Addr) (len0 cap0 : Nat) (z0 : List Int) (w : World) (w0 : IsRow (Value.int .u8) (fun n => (Lit.int .u8 n).wf = true) w a0 len0 cap0 z0) :
    Calls Try.prog 3 #[.slice a0 len0 cap0] w fun e w' => e = .returned (.bool true) ∧ Below w.heap.size w w' := by
  have l0 := len_le w0
  have O := Lib.hid (ok_u8 w0)
  obtain ⟨s0, n0⟩ := sl_of_row w0
  clear w0
  have N0 := Lib.hid n0
  clear n0
  go_enter Try.func3, Try.ntmps3
  go_wp2_with fail
  refine (bytes_any a0 len0 cap0 w l0).mono ?_
  rintro e w1 ⟨b, rfl, rfl, hq⟩
  cases b
  · go_wp2_with fail
    go_ret
    exact ⟨rfl, Below.refl _ _⟩
  have b0 := hq rfl
  clear hq
  go_wp2_with fail
  · go_ret
    exact ⟨rfl, Below.refl _ _⟩
  refine (cloned_made a0 len0 cap0 z0 w s0 b0 N0.out).mono ?_
  rintro e w1 ⟨A, c, rfl, sA, hb1⟩
  go_wp2_with fail
  refine (build_any A len0 c z0 false _ O.out l0 sA).mono ?_
  rintro e w2 ⟨T2, v2, rfl, g2, hb2⟩
  have G2 := Lib.hid g2
  clear g2
  have sA2 := sl_later sA hb2
  go_wp2_with fail
  refine (build_any A len0 c z0 true _ O.out l0 (sl_later sA2 ((Below.refl _ _).alloc (Nat.le_refl _) _))).mono ?_
  rintro e w3 ⟨T3, v3, rfl, g3, hb3⟩
  have G3 := Lib.hid g3
  clear g3
  have y2 : w2.heap.size < w3.heap.size := by have := hb3.size; simp at this; omega
  obtain ⟨hc, -⟩ := bcell hb3
  have c2 : w3.cell? ⟨w2.heap.size, 0, none⟩ = some (.iface T2 v2) := by rw [hc _ _ (by simp)]; simp
  clear hc
  have b13 : Below w2.heap.size w2 w3 := ((Below.refl _ _).alloc (Nat.le_refl _) _).trans (hb3.mono (by simp))
  have b03 : Below w.heap.size w w3 := hb1.trans ((hb2.mono hb1.size).trans (b13.mono (Nat.le_trans hb1.size hb2.size)))
  have B13 := Lib.hid b13
  have B03 := Lib.hid b03
  clear b13 b03 hb1 hb2 hb3 sA sA2 s0
  generalize hr : (bld z0 (len0 + 1) 0).1 = r at *
  clear hr
  go_wp2_with fail
  obtain ⟨w4, hw4⟩ : ∃ w4, w4 = w3.alloc (.cells #[.iface T3 v3, .int .i32 0] 30) := ⟨_, rfl⟩
  rw [← hw4]
  have d2 : w4.cell? ⟨w2.heap.size, 0, none⟩ = some (.iface T2 v2) := by rw [hw4]; simp [go_sem, c2, y2]
  have d3 : w4.cell? ⟨w3.heap.size, 0, none⟩ = some (.iface T3 v3) := by rw [hw4]; simp [go_sem]
  have b34 : Below w3.heap.size w3 w4 := by rw [hw4]; exact (Below.refl _ _).alloc (Nat.le_refl _) _
  have B04 := Lib.hid (B03.out.trans (b34.mono B03.out.size))
  have Q2 := Lib.hid (show ∀ m, Calls Try.prog 9 #[.iface T2 v2] (w4.drewN m) fun e w' => e = .returned (.bool r) ∧ w' = w4.drewN m from fun m => (is_any _ _ T2 v2 r (G2.out.later (ext_of_below (below_drewN (B13.out.trans (b34.mono B13.out.size)) m)))).mono fun _ _ h => ⟨h.1, h.2.symm⟩)
  have Q3 := Lib.hid (show ∀ m, Calls Try.prog 9 #[.iface T3 v3] (w4.drewN m) fun e w' => e = .returned (.bool r) ∧ w' = w4.drewN m from fun m => (is_any _ _ T3 v3 r (G3.out.later (ext_of_below (below_drewN b34 m)))).mono fun _ _ h => ⟨h.1, h.2.symm⟩)
  clear hw4 c2 b34
  go_quiet ((go_at_call 9; first | (with_reducible exact Calls.quiet_of_same (Q2.out _)) | (with_reducible exact Calls.quiet_of_same (Q3.out _))))
  go_wp2_with fail
  go_ret
  exact ⟨ret_true (by simp), below_drewN B04.out _⟩

/-! ### THE ROW's STEP: WRITTEN OUT: LEAVE IT -/
set_option maxRecDepth 100000 in
theorem lifted (os : Os) (started : os.Started) (H : Type) (enc : TypeId × Value → H) :
    ReturnsInHanded {} Try.checked os 3 .any (Rows.fnIsInt32OrUint32MirrorAndTestFreeSpec.pre6 enc Try.prog Try.f3 Rows.fnIsInt32OrUint32MirrorAndTestFreeRow.domain false) (Rows.fnIsInt32OrUint32MirrorAndTestFreeSpec.post enc Try.prog Try.f3 false true false false) := by
  refine returnsInHanded_of_change (C := Try.checked) own started (by kernel_rfl) Try.func3
    (ChangeSpec.witness6 (enc := enc) (C := Try.checked) false ⟨#[], #[.slice none 0 0], []⟩ 8 (by kernel_rfl) (by kernel_rfl) (by kernel_rfl) (by kernel_rfl)) ?_
  intro W base args ds gs before hval0 hW hcnd _
  have hval : ∀ (j : Nat) t v, Try.f3.params[j]? = some t → args[j]? = some v → Value.okWide Try.prog W .any base t v := hval0
  have hW' := hW
  obtain ⟨p, q, hA0, hV, rfl, hfz, hnd⟩ := hW
  have hA : DataW.TrodAll enc Try.prog W 0 (fun _ => true) true Try.f3.params.toList args.toList ds p := hA0
  rw [Try.params3] at hA hval
  obtain ⟨v0, vs0, d0, ds0, p0, q0, hargs, rfl, rfl, h0, r0⟩ := trodAll_cons hA
  obtain ⟨rfl, rfl, rfl⟩ := trodAll_nil r0
  obtain rfl : args = #[v0] := by cases args; simp_all
  obtain ⟨rfl, rfl⟩ := trodVars_none hV
  obtain ⟨a0, len0, cap0, rfl⟩ := okWide_slice Try.underlying22 (hval 0 22 v0 rfl rfl)
  have k0 := h0
  have lt0 : ∀ x ∈ p0, x.block < W.heap.size := by obtain ⟨m, hm⟩ := k0; exact DataW.trod_lt m _ _ _ hm
  obtain ⟨z0, w0⟩ : ∃ zs, IsRow (Value.int .u8) (fun n => (Lit.int .u8 n).wf = true) W a0 len0 cap0 zs := by
    obtain ⟨fuel, hf⟩ := h0
    exact isRow_of (Value.int .u8) (fun n => (Lit.int .u8 n).wf = true) 0 Try.underlying22 (by kernel_rfl) hf (fun n v z hz => by obtain ⟨u, h1, _, h3⟩ := DataW.trod_int Try.underlying5 hz; exact ⟨u, by simpa using h1, h3⟩)
  clear hA0 hval0
  refine (walk a0 len0 cap0 z0 W w0).mono fun e W' ⟨he, bel⟩ => ?_
  subst he
  exact ⟨_, rfl, _, _, _, [], _, [], hW', trodAll_mk1 (shut_bool Try.underlying4 _), (trodAll_cons_mk (Below.trod laidOut (by kernel_rfl) (of_decide_eq_true (by kernel_rfl)) k0 bel lt0) trodAll_mk0), rfl, bel.frame _, fun h => by cases h⟩

theorem over : Rows.fnIsInt32OrUint32MirrorAndTestFreeRow.holds Try.pinned (OpenSpec.ofChange Rows.fnIsInt32OrUint32MirrorAndTestFreeSpec) :=
  OpenClaim.holds_of_wide 3 Try.f3 rfl rfl rfl rfl rfl rfl rfl ⟨rfl, rfl, rfl, rfl, rfl⟩ rfl rfl rfl rfl rfl (by kernel_rfl) Try.func3 (by kernel_rfl)
    (of_decide_eq_true (by kernel_rfl)) (by unfold Func.isWrapper; first | (rw [if_pos (by decide +kernel)]; kernel_rfl) | (rw [if_neg (by decide +kernel)]; exact ⟨rfl, rfl⟩))
    (fun os started H enc _ => lifted os started H enc)

/-- THE STATEMENT -/
theorem proved : Rows.FnIsInt32OrUint32MirrorAndTestFreeSaid := over
#print axioms proved
end Go.Proofs.Ythcjcafillcikaa.fnIsInt32OrUint32MirrorAndTestFree
