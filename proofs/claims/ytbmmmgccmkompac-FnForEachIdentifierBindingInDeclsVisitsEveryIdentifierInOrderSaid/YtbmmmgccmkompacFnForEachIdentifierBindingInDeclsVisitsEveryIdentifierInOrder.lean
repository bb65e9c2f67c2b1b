/-
  For every slice of bytes the law FnForEachIdentifierBindingInDeclsVisitsEveryIdentifierInOrder returns true and leaves its argument as it was; no condition.
  The frame of this text was written by the kit's program proof-skeleton.mjs for this statement; the walk and its lemmas are the prover's.
-/
import Derived.Test.YtbmmmgccmkompacRows
import Derived.WalkKit
import Derived.ProofKit
import Derived.OpenShut
import Derived.Test.YtbmmmgccmkompacSlW
import Derived.Test.YtbmmmgccmkompacFeA
import Derived.Test.YtbmmmgccmkompacFeB
import Derived.Test.YtbmmmgccmkompacFeC
import Derived.Test.YtbmmmgccmkompacFeD
import Derived.Test.YtbmmmgccmkompacFeE
import Derived.Outline
import Derived.DataReads
import Derived.LoopTactic
import Derived.OwnWalk
import Derived.Laws.OwnMore
import Derived.ShutString
import Derived.ChangeOld
import Derived.Below
import Derived.WalkLawsBesides
import Derived.Deep.Slices
import Derived.Laws.Cover2
namespace Go.Proofs.Ytbmmmgccmkompac.fnForEachIdentifierBindingInDeclsVisitsEveryIdentifierInOrder
open Go.ChangeShapes Go.WideShapes Go.ChangeAt Go.RowKit
open Go.ChangeMaps (open_string shut_string)
open Go.Deep (open_slice1)
set_option linter.unusedVariables false

theorem own : ownKnob Try.prog.godebug = none := by kernel_rfl
theorem laidOut : laidOutB Try.prog = true := by kernel_rfl

def IsRow {α : Type} (φ : α → Value) (ok : α → Prop) (w : World) (a : Option Addr) (len cap : Nat) (zs : List α) : Prop :=
  (a = none ∧ len = 0 ∧ cap = 0 ∧ zs = []) ∨
  ∃ x, a = some x ∧ len ≤ cap ∧ cap ≤ maxLen ∧ zs.length = len ∧ (∀ i (h : i < zs.length), w.cell? (x.add i) = some (φ zs[i])) ∧ ∀ n ∈ zs, ok n

theorem isRow_of {α : Type} {H : Type} {enc : TypeId × Value → H} {P : Program} {w : World} {held : Bool} {t e : TypeId} {fuel : Nat} {a : Option Addr} {len cap : Nat} {y : DataW H × List MemPlace} (φ : α → Value) (ok : α → Prop) (d0 : α) (ht : P.underlying t = some (.slice e)) (hc : P.cellsOf e = 1)
    (h : DataW.trod enc P w 0 (fun _ => true) held fuel t (Value.slice a len cap).cells.toList = some y)
    (each : ∀ (n : Nat) (v : Value) (z : DataW H × List MemPlace), DataW.trod enc P w 0 (fun _ => true) held n e [v] = some z → ∃ u, v = φ u ∧ ok u) : ∃ zs, IsRow φ ok w a len cap zs := by
  rcases open_slice1 ht hc h with ⟨hcs, _⟩ | ⟨x, l, c, m, n, V, D, Pl, hcs, _, hl, hm, hmm, hy, hx⟩
  · simp [Value.cells] at hcs
    obtain ⟨rfl, rfl, rfl⟩ := hcs
    exact ⟨[], .inl ⟨rfl, rfl, rfl, rfl⟩⟩
  · simp [Value.cells] at hcs
    obtain ⟨rfl, rfl, rfl⟩ := hcs
    simp only [if_true] at hmm
    subst hmm
    have hex : ∀ i, ∃ u, i < len → V i = φ u ∧ ok u := by
      intro i
      by_cases hi : i < len
      · obtain ⟨u, h1, h2⟩ := each n (V i) _ (hx i (by omega)).2
        exact ⟨u, fun _ => ⟨h1, h2⟩⟩
      · exact ⟨d0, fun h => absurd h hi⟩
    refine ⟨(List.range len).map fun i => Classical.choose (hex i), .inr ⟨x, rfl, hl, hm, by simp, ?_, ?_⟩⟩
    · intro i hi
      simp at hi
      rw [(hx i (by omega)).1, (Classical.choose_spec (hex i) hi).1]
      simp
    · intro u hu
      simp at hu
      obtain ⟨i, hi, rfl⟩ := hu
      exact (Classical.choose_spec (hex i) hi).2

theorem block_lt {w : World} {a : Addr} {v : Value} (h : w.cell? a = some v) : a.block < w.heap.size := by
  rcases Nat.lt_or_ge a.block w.heap.size with hlt | hge
  · exact hlt
  · simp [World.cell?, Array.getElem?_eq_none hge] at h
theorem sl_of_row {α : Type} {φ : α → Value} {ok : α → Prop} {w : World} {a : Option Addr} {len cap : Nat} {zs : List α} (h : IsRow φ ok w a len cap zs) : Sl w w.heap.size a len (zs.map φ) ∧ (a = none → len = 0 ∧ cap = 0) := by
  rcases h with ⟨rfl, rfl, rfl, rfl⟩ | ⟨x, rfl, _, _, hl, hc, _⟩
  · exact ⟨Sl.empty, fun _ => ⟨rfl, rfl⟩⟩
  · refine ⟨⟨by simpa using hl, fun hn => ?_⟩, fun h => by cases h⟩
    have h0 := hc 0 (by omega)
    have hx : x.add 0 = x := by simp [Addr.add]
    rw [hx] at h0
    have hs := World.cell?_spot h0
    have hb := block_lt h0
    obtain ⟨b, off, sp⟩ := x
    simp at hs
    subst hs
    refine ⟨b, off, rfl, hb, fun j u hu => ?_⟩
    simp at hu
    obtain ⟨y, hy, rfl⟩ := hu
    have hj : j < zs.length := (List.getElem?_eq_some_iff.1 hy).1
    have := hc j hj
    rw [(List.getElem?_eq_some_iff.1 hy).2] at this
    rw [← this]
    unfold Addr.add
    split
    · rename_i h; simp [h]
    · rfl
theorem len_le {α : Type} {φ : α → Value} {ok : α → Prop} {w : World} {a : Option Addr} {len cap : Nat} {zs : List α} (h : IsRow φ ok w a len cap zs) : len ≤ 9223372036854775807 := by
  rcases h with ⟨rfl, rfl, rfl, rfl⟩ | ⟨x, rfl, h1, h2, _⟩
  · omega
  · unfold maxLen at h2; omega
def Byt (Q : Prop) (w : World) (e : Ending) (w' : World) : Prop := ∃ b, e = .returned (.bool b) ∧ w = w' ∧ (b = true → Q)
set_option maxRecDepth 100000 in
theorem bytes_any (A : Option Addr) (n c : Nat) (w : World) (h1 : n ≤ 9223372036854775807) :
    Calls Try.prog 4 #[.slice A n c] w (Byt (n ≤ big20) w) := by
  go_enter Try.func4, Try.ntmps4
  go_wp2_with fail
  all_goals (go_ret; exact ⟨_, rfl, rfl, fun h => by first | (unfold big20; omega) | cases h⟩)
theorem idp_at (zs : List Int) (p n : Nat) (hp : p < n) (h : zs.getD p 0 % 4 = 1) : (idp zs 0 n)[(idp zs 0 p).length]? = some p := by
  rw [← idp_app zs 0 p n (by omega) (by omega), List.getElem?_append_right (Nat.le_refl _), Nat.sub_self, ← idp_app zs p (p + 1) n (by omega) (by omega), idp_one, if_pos h]; rfl
theorem idp_lt (zs : List Int) (p n : Nat) (hp : p < n) (h : zs.getD p 0 % 4 = 1) : (idp zs 0 p).length < (idp zs 0 n).length := (List.getElem?_eq_some_iff.1 (idp_at zs p n hp h)).1
theorem idp_up (zs : List Int) (p : Nat) (h : zs.getD p 0 % 4 = 1) : (idp zs 0 (p + 1)).length = (idp zs 0 p).length + 1 := by
  rw [← idp_app zs 0 p (p + 1) (by omega) (by omega), idp_one, if_pos h]; simp
theorem idp_no (zs : List Int) (p : Nat) (h : ¬ zs.getD p 0 % 4 = 1) : (idp zs 0 (p + 1)).length = (idp zs 0 p).length := by
  rw [← idp_app zs 0 p (p + 1) (by omega) (by omega), idp_one, if_neg h]; simp
theorem wf_u8 {z : Int} (h : (Lit.int .u8 z).wf = true) : 0 ≤ z ∧ z < 256 := by
  have h1 : IntKind.u8.min = 0 := rfl
  have h2 : IntKind.u8.max = 255 := rfl
  simp [Lit.wf, h1, h2] at h; omega
theorem slice_own {w : World} {B n size l c : Nat} {e : TypeId} {a : Option Addr} {xs : List Value} (h : w.ownsRow B e size (.slice a l c) n xs) : n = l ∧ (a = none → n = 0) := by
  rcases h.2 with ⟨h1, h0⟩ | ⟨g, cap, cur, h1, _⟩
  · simp at h1; exact ⟨by omega, fun _ => h0⟩
  · simp at h1; exact ⟨by omega, fun hh => by rw [hh] at h1; simp at h1⟩

set_option maxRecDepth 100000 in
set_option maxHeartbeats 4000000 in
theorem walk (a0 : Option Addr) (len0 cap0 : Nat) (z0 : List Int) (w : World) (w0 : IsRow (Value.int .u8) (fun n => (Lit.int .u8 n).wf = true) w a0 len0 cap0 z0) :
    Calls Try.prog 3 #[.slice a0 len0 cap0] w fun e w' => e = .returned (.bool true) ∧ Below w.heap.size w w' := by
  have l0 := len_le w0
  have hz : ∀ z ∈ z0, 0 ≤ z ∧ z < 256 := by
    rcases w0 with ⟨_, _, _, rfl⟩ | ⟨_, _, _, _, _, _, h⟩
    · intro z hz; cases hz
    · exact fun z hz => wf_u8 (h z hz)
  obtain ⟨s0, n0⟩ := sl_of_row w0
  clear w0
  have N0 := Lib.hid n0
  have HZ := Lib.hid hz
  have S0 := Lib.hid s0
  clear n0 hz s0
  generalize len0 = n at *
  generalize z0 = zs at *
  go_enter Try.func3, Try.ntmps3
  go_wp2_with fail
  refine (bytes_any a0 n cap0 w l0).mono ?_
  rintro e w1 ⟨b, rfl, rfl, hq⟩
  cases b
  · go_wp2_with fail
    go_ret
    exact ⟨rfl, Below.refl _ _⟩
  have b0 := hq rfl
  clear hq
  by_cases hbig : 65536 < n
  · go_wp2_with fail
    go_ret
    exact ⟨rfl, Below.refl _ _⟩
  have hn : n ≤ 65536 := by omega
  clear hbig
  go_wp2_with fail
  refine (clone_any a0 n cap0 zs w S0.out b0 N0.out).mono ?_
  rintro e w1 ⟨A, c, rfl, sA, hb1⟩
  have SA := Lib.hid sA
  have B1 := Lib.hid hb1
  clear sA hb1 b0 l0 S0 N0
  go_wp2_with fail
  refine (decls_any zs n c A w1 hn HZ.out SA.out).mono ?_
  rintro e w2 ⟨v, its, rfl, hrow, hits, hids, hlen, hb2⟩
  have HROW := Lib.hid hrow
  have HITS := Lib.hid hits
  have HIDS := Lib.hid hids
  have HLEN := Lib.hid hlen
  have B2 := Lib.hid hb2
  have hvf : ∃ a l c, v = .slice a l c := by
    rcases hrow with ⟨_, a, c, h⟩ | ⟨g, cap, cur, h, _⟩
    · exact ⟨_, _, _, h⟩
    · exact ⟨_, _, _, h⟩
  obtain ⟨va, vl, vc, rfl⟩ := hvf
  clear hrow hits hids hlen hb2
  go_wp2_with fail
  have hst : St w2.heap.size w2.heap.size (w2.heap.size + 1) [] ((w2.alloc (.cells #[.slice none 0 0] 27)).alloc (.cells #[.slice none 0 0] 28)) :=
    ⟨.slice none 0 0, .slice none 0 0, (Bk.new _ _ _).alloc _, Bk.new' _ _ _ _ (by simp), World.ownsRow_nil _ _ _ _, World.ownsRow_nil _ _ _ _, Nat.le_refl _, by omega, by simp; omega⟩
  refine (visit_decls w1.heap.size w2.heap.size w2 (.slice va vl vc) its HROW.out HITS.out (by have := HLEN.out; omega) w2.heap.size w2.heap.size (w2.heap.size + 1) [] _ (Nat.le_refl _) (agree_below (((Below.refl _ _).alloc (Nat.le_refl _) _).alloc (by simp) _) (Nat.le_refl _)) hst ?_).mono ?_
  · have h1 := idp_len zs 0 n
    rw [HIDS.out, List.length_nil]; omega
  rintro e w3 ⟨rfl, hs3, hb3⟩
  rw [List.nil_append, HIDS.out] at hs3
  obtain ⟨lv, rv, bL, bR, oL, oR, -, -, -⟩ := hs3
  have BL3 := Lib.hid hb3
  have LW : Hid (Below w.heap.size w w3) := B1.out.trans ((B2.out.trans (((((Below.refl _ _).alloc (Nat.le_refl _) _).alloc (by simp) _).trans hb3).mono B2.out.size)).mono B1.out.size)
  have c0 : w3.cell? ⟨w2.heap.size, 0, none⟩ = some lv := bL.cell 0
  have c1 : w3.cell? ⟨w2.heap.size + 1, 0, none⟩ = some rv := bR.cell 0
  have S3 : Hid (Sl w3 w1.heap.size A n (zs.map (Value.int .u8))) := by
    refine SA.out.below (B2.out.trans ?_)
    exact ((((Below.refl _ _).alloc (Nat.le_refl _) _).alloc (by simp) _).trans hb3).mono B2.out.size
  have z3 : w1.heap.size ≤ w3.heap.size := by have := B2.out.size; have := hb3.size; simp at this; omega
  have hcl := idp_len zs 0 n
  generalize hcs : idp zs 0 n = cs at *
  have HCS := Lib.hid hcs
  have OL := Lib.hid oL
  have OR := Lib.hid oR
  clear hb3 bL bR hst hcs
  obtain ⟨la, ll, lc, rfl⟩ : ∃ a l c, lv = .slice a l c := row_form oL
  obtain ⟨ra, rl, rc, rfl⟩ : ∃ a l c, rv = .slice a l c := row_form oR
  obtain ⟨rfl, hla⟩ := slice_own oL
  obtain ⟨rfl, hra⟩ := slice_own oR
  clear oL oR
  go_wp2_with fail
  have zb0 : w2.heap.size < w3.heap.size := BL3.out.size |> fun h => by simp at h; omega
  have zb1 : w2.heap.size + 1 < w3.heap.size := BL3.out.size |> fun h => by simp at h; omega
  have HLA := Lib.hid hla
  have HRA := Lib.hid hra
  have HCL := Lib.hid hcl
  clear hla hra hcl
  have hcb : cs.length ≤ 65536 := by have := HCL.out; omega
  go_loop [6, 7] (fun k p => ∃ q j : Nat, q ≤ n ∧ j ≤ cs.length ∧ p = .int .i64 q ∧ k = .int .i64 (j : Int) ∧ Hid (j = (idp zs 0 q).length)) (fun _ p => n - (intOf p).toNat)
  case atStart => exact ⟨0, 0, by omega, by omega, rfl, rfl, by rw [idp_self]; rfl⟩
  case round =>
    obtain ⟨q, j, hq, hj, rfl, rfl, HJ⟩ := hrel
    by_cases hlt : q < n
    · obtain ⟨bb, off, u, hA, hbb, hu, hx⟩ := S3.out.at_ hlt
      obtain ⟨b, hb0, rfl⟩ : ∃ b, zs[q]? = some b ∧ Value.int .u8 b = u := by simpa using hu
      have hgd : Hid (zs.getD q 0 = b) := by rw [List.getD_eq_getElem?_getD, hb0]; rfl
      have b0 : 0 ≤ b := (HZ.out b (List.mem_of_getElem? hb0)).1
      have b1 : b < 256 := (HZ.out b (List.mem_of_getElem? hb0)).2
      have zbb : bb < w3.heap.size := by omega
      subst hA
      clear hu hb0
      by_cases h1 : b % 4 = 1
      · have hjl : j < cs.length := by rw [HJ.out, ← HCS.out]; exact idp_lt zs q n hlt (by rw [hgd.out]; exact h1)
        have hat : cs[j]? = some q := by rw [HJ.out, ← HCS.out]; exact idp_at zs q n hlt (by rw [hgd.out]; exact h1)
        obtain ⟨g1, k1, e1⟩ := own_form OL.out (by omega)
        obtain ⟨g2, k2, e2⟩ := own_form OR.out (by omega)
        simp only [Value.slice.injEq] at e1 e2
        obtain ⟨rfl, -, -⟩ := e1
        obtain ⟨rfl, -, -⟩ := e2
        have d0 : w3.cell? ⟨g1, j, none⟩ = some (.int .i32 (q : Int)) := by rw [OL.out.cellAt j (by omega), List.getElem?_map, hat]; rfl
        have d1 : w3.cell? ⟨g2, j, none⟩ = some (.int .u32 (q : Int)) := by rw [OR.out.cellAt j (by omega), List.getElem?_map, hat]; rfl
        clear hat
        go_wp2_with fail
        go_round
        case rel => exact ⟨q + 1, j + 1, by omega, by omega, by go_num, by go_num, by have h := idp_up zs q (by rw [hgd.out]; exact h1); exact Lib.hid (by rw [h, ← HJ.out])⟩
        case measure => simp [intOf]; omega
      · go_wp2_with fail
        go_round
        case rel => exact ⟨q + 1, j, by omega, by omega, by go_num, rfl, by have h := idp_no zs q (by rw [hgd.out]; exact h1); exact Lib.hid (by rw [h, ← HJ.out])⟩
        case measure => simp [intOf]; omega
    · have hjc : j = cs.length := by rw [HJ.out, show q = n by omega, HCS.out]
      have HJC := Lib.hid hjc
      clear hjc
      go_wp2_with fail
      go_ret
      exact ⟨ret_true (by have := HJC.out; simp; omega), LW.out⟩

/-! ### THE ROW's STEP: WRITTEN OUT: LEAVE IT -/
set_option maxRecDepth 100000 in
theorem lifted (os : Os) (started : os.Started) (H : Type) (enc : TypeId × Value → H) :
    ReturnsInHanded {} Try.checked os 3 .any (Rows.fnForEachIdentifierBindingInDeclsVisitsEveryIdentifierInOrderSpec.pre6 enc Try.prog Try.f3 Rows.fnForEachIdentifierBindingInDeclsVisitsEveryIdentifierInOrderRow.domain false) (Rows.fnForEachIdentifierBindingInDeclsVisitsEveryIdentifierInOrderSpec.post enc Try.prog Try.f3 false true false false) := by
  refine returnsInHanded_of_change (C := Try.checked) own started (by kernel_rfl) Try.func3
    (ChangeSpec.witness6 (enc := enc) (C := Try.checked) false ⟨#[], #[.slice none 0 0], []⟩ 8 (by kernel_rfl) (by kernel_rfl) (by kernel_rfl) (by kernel_rfl)) ?_
  intro W base args ds gs before hval0 hW hcnd _
  have hval : ∀ (j : Nat) t v, Try.f3.params[j]? = some t → args[j]? = some v → Value.okWide Try.prog W .any base t v := hval0
  have hW' := hW
  obtain ⟨p, q, hA0, hV, rfl, hfz, hnd⟩ := hW
  have hA : DataW.TrodAll enc Try.prog W 0 (fun _ => true) true Try.f3.params.toList args.toList ds p := hA0
  rw [Try.params3] at hA hval
  obtain ⟨v0, vs0, d0, ds0, p0, q0, hargs, rfl, rfl, h0, r0⟩ := trodAll_cons hA
  obtain ⟨rfl, rfl, rfl⟩ := trodAll_nil r0
  obtain rfl : args = #[v0] := by cases args; simp_all
  obtain ⟨rfl, rfl⟩ := trodVars_none hV
  obtain ⟨a0, len0, cap0, rfl⟩ := okWide_slice Try.underlying22 (hval 0 22 v0 rfl rfl)
  have k0 := h0
  have lt0 : ∀ x ∈ p0, x.block < W.heap.size := by obtain ⟨m, hm⟩ := k0; exact DataW.trod_lt m _ _ _ hm
  obtain ⟨z0, w0⟩ : ∃ zs, IsRow (Value.int .u8) (fun n => (Lit.int .u8 n).wf = true) W a0 len0 cap0 zs := by
    obtain ⟨fuel, hf⟩ := h0
    exact isRow_of (Value.int .u8) (fun n => (Lit.int .u8 n).wf = true) 0 Try.underlying22 (by kernel_rfl) hf (fun n v z hz => by obtain ⟨u, h1, _, h3⟩ := DataW.trod_int Try.underlying5 hz; exact ⟨u, by simpa using h1, h3⟩)
  clear hA0 hval0
  refine (walk a0 len0 cap0 z0 W w0).mono fun e W' ⟨he, bel⟩ => ?_
  subst he
  exact ⟨_, rfl, _, _, _, [], _, [], hW', trodAll_mk1 (shut_bool Try.underlying4 _), (trodAll_cons_mk (Below.trod laidOut (by kernel_rfl) (of_decide_eq_true (by kernel_rfl)) k0 bel lt0) trodAll_mk0), rfl, bel.frame _, fun h => by cases h⟩

theorem over : Rows.fnForEachIdentifierBindingInDeclsVisitsEveryIdentifierInOrderRow.holds Try.pinned (OpenSpec.ofChange Rows.fnForEachIdentifierBindingInDeclsVisitsEveryIdentifierInOrderSpec) :=
  OpenClaim.holds_of_wide 3 Try.f3 rfl rfl rfl rfl rfl rfl rfl ⟨rfl, rfl, rfl, rfl, rfl⟩ rfl rfl rfl rfl rfl (by kernel_rfl) Try.func3 (by kernel_rfl)
    (of_decide_eq_true (by kernel_rfl)) (by unfold Func.isWrapper; first | (rw [if_pos (by decide +kernel)]; kernel_rfl) | (rw [if_neg (by decide +kernel)]; exact ⟨rfl, rfl⟩))
    (fun os started H enc _ => lifted os started H enc)

/-- THE STATEMENT -/
theorem proved : Rows.FnForEachIdentifierBindingInDeclsVisitsEveryIdentifierInOrderSaid := over
#print axioms proved
end Go.Proofs.Ytbmmmgccmkompac.fnForEachIdentifierBindingInDeclsVisitsEveryIdentifierInOrder
