/-
  For every operator, two bools, two float64 and two slices of uint16 the law FnShouldFoldCaseTable returns true and leaves its arguments as they were; no condition.
  The frame of this text was written by the kit's program proof-skeleton.mjs for this statement; the walk and its lemmas are the prover's.
-/
import Derived.Test.YtdjiekejkjgamadRows
import Derived.WalkKit
import Derived.ProofKit
import Derived.OpenShut
import Derived.Test.YtdjiekejkjgamadSlW
import Derived.Test.YtdjiekejkjgamadCl298
import Derived.Test.YtdjiekejkjgamadFltM
import Derived.Test.YtdjiekejkjgamadFltW
import Derived.Test.YtdjiekejkjgamadFltX
import Derived.Test.YtdjiekejkjgamadFltY
import Derived.Test.YtdjiekejkjgamadFltZ
import Derived.Test.YtdjiekejkjgamadFltL
import Derived.Test.YtdjiekejkjgamadSfE
import Derived.Test.YtdjiekejkjgamadSfN
import Derived.Test.YtdjiekejkjgamadSfT
import Derived.Test.YtdjiekejkjgamadSfS
import Derived.Test.YtdjiekejkjgamadSfL
import Derived.Test.YtdjiekejkjgamadSfM
import Derived.Test.YtdjiekejkjgamadSfF
import Derived.Test.YtdjiekejkjgamadSfA
import Derived.Test.YtdjiekejkjgamadSfB
import Derived.Test.YtdjiekejkjgamadSfP
import Derived.Test.YtdjiekejkjgamadSfH
import Derived.Test.YtdjiekejkjgamadSfI
import Derived.Test.YtdjiekejkjgamadSfJ
import Derived.DataReads
import Derived.WalkSpells
import Derived.ShutString
import Derived.ChangeOld
import Derived.Below
import Derived.WalkLawsBesides
import Derived.Deep.Slices
import Derived.Laws.Cover2
namespace Go.Proofs.Ytdjiekejkjgamad.fnShouldFoldCaseTable
open Go.ChangeShapes Go.WideShapes Go.ChangeAt Go.RowKit
open Go.ChangeMaps (open_string shut_string)
open Go.Deep (open_slice1)
set_option linter.unusedVariables false

theorem own : ownKnob Try.prog.godebug = none := by kernel_rfl
theorem laidOut : laidOutB Try.prog = true := by kernel_rfl

def IsRow {α : Type} (φ : α → Value) (ok : α → Prop) (w : World) (a : Option Addr) (len cap : Nat) (zs : List α) : Prop :=
  (a = none ∧ len = 0 ∧ cap = 0 ∧ zs = []) ∨
  ∃ x, a = some x ∧ len ≤ cap ∧ cap ≤ maxLen ∧ zs.length = len ∧ (∀ i (h : i < zs.length), w.cell? (x.add i) = some (φ zs[i])) ∧ ∀ n ∈ zs, ok n

theorem isRow_of {α : Type} {H : Type} {enc : TypeId × Value → H} {P : Program} {w : World} {held : Bool} {t e : TypeId} {fuel : Nat} {a : Option Addr} {len cap : Nat} {y : DataW H × List MemPlace} (φ : α → Value) (ok : α → Prop) (d0 : α) (ht : P.underlying t = some (.slice e)) (hc : P.cellsOf e = 1)
    (h : DataW.trod enc P w 0 (fun _ => true) held fuel t (Value.slice a len cap).cells.toList = some y)
    (each : ∀ (n : Nat) (v : Value) (z : DataW H × List MemPlace), DataW.trod enc P w 0 (fun _ => true) held n e [v] = some z → ∃ u, v = φ u ∧ ok u) : ∃ zs, IsRow φ ok w a len cap zs := by
  rcases open_slice1 ht hc h with ⟨hcs, _⟩ | ⟨x, l, c, m, n, V, D, Pl, hcs, _, hl, hm, hmm, hy, hx⟩
  · simp [Value.cells] at hcs
    obtain ⟨rfl, rfl, rfl⟩ := hcs
    exact ⟨[], .inl ⟨rfl, rfl, rfl, rfl⟩⟩
  · simp [Value.cells] at hcs
    obtain ⟨rfl, rfl, rfl⟩ := hcs
    simp only [if_true] at hmm
    subst hmm
    have hex : ∀ i, ∃ u, i < len → V i = φ u ∧ ok u := by
      intro i
      by_cases hi : i < len
      · obtain ⟨u, h1, h2⟩ := each n (V i) _ (hx i (by omega)).2
        exact ⟨u, fun _ => ⟨h1, h2⟩⟩
      · exact ⟨d0, fun h => absurd h hi⟩
    refine ⟨(List.range len).map fun i => Classical.choose (hex i), .inr ⟨x, rfl, hl, hm, by simp, ?_, ?_⟩⟩
    · intro i hi
      simp at hi
      rw [(hx i (by omega)).1, (Classical.choose_spec (hex i) hi).1]
      simp
    · intro u hu
      simp at hu
      obtain ⟨i, hi, rfl⟩ := hu
      exact (Classical.choose_spec (hex i) hi).2

theorem block_lt {w : World} {a : Addr} {v : Value} (h : w.cell? a = some v) : a.block < w.heap.size := by
  rcases Nat.lt_or_ge a.block w.heap.size with hlt | hge
  · exact hlt
  · simp [World.cell?, Array.getElem?_eq_none hge] at h
theorem sl_of_row {α : Type} {φ : α → Value} {ok : α → Prop} {w : World} {a : Option Addr} {len cap : Nat} {zs : List α} (h : IsRow φ ok w a len cap zs) : Sl w w.heap.size a len (zs.map φ) ∧ (a = none → len = 0 ∧ cap = 0) := by
  rcases h with ⟨rfl, rfl, rfl, rfl⟩ | ⟨x, rfl, _, _, hl, hc, _⟩
  · exact ⟨Sl.empty, fun _ => ⟨rfl, rfl⟩⟩
  · refine ⟨⟨by simpa using hl, fun hn => ?_⟩, fun h => by cases h⟩
    have h0 := hc 0 (by omega)
    have hx : x.add 0 = x := by simp [Addr.add]
    rw [hx] at h0
    have hs := World.cell?_spot h0
    have hb := block_lt h0
    obtain ⟨b, off, sp⟩ := x
    simp at hs
    subst hs
    refine ⟨b, off, rfl, hb, fun j u hu => ?_⟩
    simp at hu
    obtain ⟨y, hy, rfl⟩ := hu
    have hj : j < zs.length := (List.getElem?_eq_some_iff.1 hy).1
    have := hc j hj
    rw [(List.getElem?_eq_some_iff.1 hy).2] at this
    rw [← this]
    unfold Addr.add
    split
    · rename_i h; simp [h]
    · rfl
theorem len_le {α : Type} {φ : α → Value} {ok : α → Prop} {w : World} {a : Option Addr} {len cap : Nat} {zs : List α} (h : IsRow φ ok w a len cap zs) : len ≤ 9223372036854775807 := by
  rcases h with ⟨rfl, rfl, rfl, rfl⟩ | ⟨x, rfl, h1, h2, _⟩
  · omega
  · unfold maxLen at h2; omega
def Byt (Q : Prop) (w : World) (e : Ending) (w' : World) : Prop := ∃ b, e = .returned (.bool b) ∧ w = w' ∧ (b = true → Q)
set_option maxRecDepth 100000 in
theorem bytes_any (k : Int) (A B : Option Addr) (n m c d x y : Nat) (p q : Bool) (w : World) (h1 : n ≤ 9223372036854775807) (h2 : m ≤ 9223372036854775807) :
    Calls Try.prog 4 #[.int .u8 k, .bool p, .float .f64 x, .slice A n c, .bool q, .float .f64 y, .slice B m d] w (Byt (n ≤ big20 ∧ m ≤ big20) w) := by
  go_enter Try.func4, Try.ntmps4
  go_wp2_with fail
  all_goals (go_ret; exact ⟨_, rfl, rfl, fun h => by first | (unfold big20; omega) | cases h⟩)
def Made (w : World) (n : Nat) (us : List Int) (e : Ending) (w' : World) : Prop := ∃ A c, e = .returned (.slice A n c) ∧ Below w.heap.size w w'
theorem later_ {w w' : World} {A : Option Addr} {n : Nat} {zs : List Value} (h : Sl w w.heap.size A n zs) (hb : Below w.heap.size w w') : Sl w' w'.heap.size A n zs := (h.below hb).more hb.size
theorem cloned_made (A : Option Addr) (n c : Nat) (us : List Int) (w : World) (hs : Sl w w.heap.size A n (us.map (Value.int .u16))) (hn : n ≤ big20) (hnil : A = none → n = 0 ∧ c = 0) :
    Calls Try.prog 6 #[.slice A n c] w (Made w n us) :=
  (clone_u16 A n c us w hs hn hnil).mono fun e w' h => by
    rcases h with ⟨rfl, h1, rfl⟩ | ⟨_, h1, rfl⟩
    · obtain ⟨rfl, rfl⟩ := hnil rfl
      exact ⟨_, _, h1, Below.refl _ _⟩
    · exact ⟨_, _, h1, (Below.refl _ _).alloc (Nat.le_refl _) _⟩

set_option maxRecDepth 100000 in
set_option maxHeartbeats 4000000 in
theorem walk (a0 : Int) (a1 : Bool) (a2 : Nat) (a3 : Option Addr) (len3 cap3 : Nat) (z3 : List Int) (a4 : Bool) (a5 : Nat) (a6 : Option Addr) (len6 cap6 : Nat) (z6 : List Int) (w : World) (w0 : (Lit.int .u8 a0).wf = true) (w2 : (Lit.float .f64 a2).wf = true) (w3 : IsRow (Value.int .u16) (fun n => (Lit.int .u16 n).wf = true) w a3 len3 cap3 z3) (w5 : (Lit.float .f64 a5).wf = true) (w6 : IsRow (Value.int .u16) (fun n => (Lit.int .u16 n).wf = true) w a6 len6 cap6 z6) :
    Calls Try.prog 3 #[.int .u8 a0, .bool a1, .float .f64 a2, .slice a3 len3 cap3, .bool a4, .float .f64 a5, .slice a6 len6 cap6] w fun e w' => e = .returned (.bool true) ∧ Below w.heap.size w w' := by
  have l3 := len_le w3
  have l6 := len_le w6
  obtain ⟨s3, n3⟩ := sl_of_row w3
  obtain ⟨s6, n6⟩ := sl_of_row w6
  have hw2 : a2 < 18446744073709551616 := by simpa [Lit.wf] using w2
  have hw5 : a5 < 18446744073709551616 := by simpa [Lit.wf] using w5
  obtain ⟨s, r, rfl, hr⟩ := split64 a2 hw2
  obtain ⟨t, q, rfl, hq⟩ := split64 a5 hw5
  obtain ⟨a, c, k1, k2⟩ := agree_any a0 a1 a4 s t r q hr hq
  generalize wd s r = x at *
  generalize wd t q = y at *
  have K1 := Lib.hid k1
  have K2 := Lib.hid k2
  have N3 := Lib.hid n3
  have N6 := Lib.hid n6
  clear k1 k2 n3 n6 w2 w5 w3 w6 hw2 hw5 hr hq
  go_enter Try.func3, Try.ntmps3
  go_wp2_with fail
  refine (bytes_any a0 a3 a6 len3 len6 cap3 cap6 x y a1 a4 w l3 l6).mono ?_
  rintro e w1 ⟨b, rfl, rfl, hb⟩
  cases b
  · go_wp2_with fail
    go_ret
    exact ⟨rfl, Below.refl _ _⟩
  obtain ⟨b3, b6⟩ := hb rfl
  clear hb
  go_wp2_with fail
  · go_ret; exact ⟨rfl, Below.refl _ _⟩
  · go_ret; exact ⟨rfl, Below.refl _ _⟩
  refine (K1.out _).mono ?_
  rintro e w1 ⟨rfl, rfl⟩
  cases c
  · go_wp2_with fail
    go_ret
    exact ⟨rfl, Below.refl _ _⟩
  go_wp2_with fail
  refine (cloned_made a3 len3 cap3 z3 w s3 b3 N3.out).mono ?_
  rintro e w1 ⟨A, c1, rfl, hb1⟩
  go_wp2_with fail
  refine (cloned_made a6 len6 cap6 z6 w1 (later_ s6 hb1) b6 N6.out).mono ?_
  rintro e w2 ⟨B, c2, rfl, hb2⟩
  have hb02 := hb1.trans (hb2.mono hb1.size)
  have B02 := Lib.hid hb02
  clear hb1 hb2 hb02 s3 s6
  go_wp2_with fail
  refine (leaf_mk a1 A len3 c1 x w2).mono ?_
  rintro e w3 ⟨T3, v3, n3, rfl, g3, hb3⟩
  go_wp2_with fail
  refine (leaf_mk a4 B len6 c2 y _).mono ?_
  rintro e w4 ⟨T4, v4, n4, rfl, g4, hb4⟩
  go_wp2_with fail
  have hb5 : Below w4.heap.size w4 (w4.alloc (.cells #[.iface T3 v3, .int .i32 0, .iface T4 v4, .int .i32 0, .int .u8 a0, .bool false] 38)) := (Below.refl _ _).alloc (Nat.le_refl _) _
  have KF := Lib.hid (K2.out (by first | trivial | rfl) w4.heap.size n3 n4 (.iface T3 v3) (.iface T4 v4) (w4.alloc (.cells #[.iface T3 v3, .int .i32 0, .iface T4 v4, .int .i32 0, .int .u8 a0, .bool false] 38)) ⟨by simp, by simp, by simp, by simp, by simp⟩ (by simp) ((g3.later hb4).later hb5) (g4.later hb5))
  have hb24 := hb3.trans (hb4.mono hb3.size)
  have hb25 := hb24.trans (hb5.mono hb24.size)
  have BX := Lib.hid (B02.out.trans (hb25.mono B02.out.size))
  clear hb3 hb4 hb5 hb24 hb25 g3 g4 K2
  refine KF.out.mono ?_
  rintro e w6 ⟨rfl, hb6⟩
  have hq : (a == a) = true := by simp
  go_wp2_with fail
  go_ret
  exact ⟨ret_b (by simp), BX.out.trans (hb6.mono BX.out.size)⟩

/-! ### THE ROW's STEP: WRITTEN OUT: LEAVE IT -/
set_option maxRecDepth 100000 in
theorem lifted (os : Os) (started : os.Started) (H : Type) (enc : TypeId × Value → H) :
    ReturnsInHanded {} Try.checked os 3 .any (Rows.fnShouldFoldCaseTableSpec.pre6 enc Try.prog Try.f3 Rows.fnShouldFoldCaseTableRow.domain false) (Rows.fnShouldFoldCaseTableSpec.post enc Try.prog Try.f3 false true false false) := by
  refine returnsInHanded_of_change (C := Try.checked) own started (by kernel_rfl) Try.func3
    (ChangeSpec.witness6 (enc := enc) (C := Try.checked) false ⟨#[], #[.int .u8 0, .bool false, .float .f64 0, .slice none 0 0, .bool false, .float .f64 0, .slice none 0 0], []⟩ 8 (by kernel_rfl) (by kernel_rfl) (by kernel_rfl) (by kernel_rfl)) ?_
  intro W base args ds gs before hval0 hW hcnd _
  have hval : ∀ (j : Nat) t v, Try.f3.params[j]? = some t → args[j]? = some v → Value.okWide Try.prog W .any base t v := hval0
  have hW' := hW
  obtain ⟨p, q, hA0, hV, rfl, hfz, hnd⟩ := hW
  have hA : DataW.TrodAll enc Try.prog W 0 (fun _ => true) true Try.f3.params.toList args.toList ds p := hA0
  rw [Try.params3] at hA hval
  obtain ⟨v0, vs0, d0, ds0, p0, q0, hargs, rfl, rfl, h0, r0⟩ := trodAll_cons hA
  obtain ⟨v1, vs1, d1, ds1, p1, q1, rfl, rfl, rfl, h1, r1⟩ := trodAll_cons r0
  obtain ⟨v2, vs2, d2, ds2, p2, q2, rfl, rfl, rfl, h2, r2⟩ := trodAll_cons r1
  obtain ⟨v3, vs3, d3, ds3, p3, q3, rfl, rfl, rfl, h3, r3⟩ := trodAll_cons r2
  obtain ⟨v4, vs4, d4, ds4, p4, q4, rfl, rfl, rfl, h4, r4⟩ := trodAll_cons r3
  obtain ⟨v5, vs5, d5, ds5, p5, q5, rfl, rfl, rfl, h5, r5⟩ := trodAll_cons r4
  obtain ⟨v6, vs6, d6, ds6, p6, q6, rfl, rfl, rfl, h6, r6⟩ := trodAll_cons r5
  obtain ⟨rfl, rfl, rfl⟩ := trodAll_nil r6
  obtain rfl : args = #[v0, v1, v2, v3, v4, v5, v6] := by cases args; simp_all
  obtain ⟨rfl, rfl⟩ := trodVars_none hV
  obtain ⟨a0, rfl, rfl, rfl, w0⟩ := open_int Try.underlying5 (hval 0 5 v0 rfl rfl) h0
  obtain ⟨a1, rfl, rfl, rfl⟩ := open_bool Try.underlying4 (hval 1 4 v1 rfl rfl) h1
  obtain ⟨a2, rfl, rfl, rfl, w2⟩ := open_float Try.underlying22 (hval 2 22 v2 rfl rfl) h2
  obtain ⟨a3, len3, cap3, rfl⟩ := okWide_slice Try.underlying23 (hval 3 23 v3 rfl rfl)
  have k3 := h3
  have lt3 : ∀ x ∈ p3, x.block < W.heap.size := by obtain ⟨m, hm⟩ := k3; exact DataW.trod_lt m _ _ _ hm
  obtain ⟨z3, w3⟩ : ∃ zs, IsRow (Value.int .u16) (fun n => (Lit.int .u16 n).wf = true) W a3 len3 cap3 zs := by
    obtain ⟨fuel, hf⟩ := h3
    exact isRow_of (Value.int .u16) (fun n => (Lit.int .u16 n).wf = true) 0 Try.underlying23 (by kernel_rfl) hf (fun n v z hz => by obtain ⟨u, h1, _, h3⟩ := DataW.trod_int Try.underlying41 hz; exact ⟨u, by simpa using h1, h3⟩)
  obtain ⟨a4, rfl, rfl, rfl⟩ := open_bool Try.underlying4 (hval 4 4 v4 rfl rfl) h4
  obtain ⟨a5, rfl, rfl, rfl, w5⟩ := open_float Try.underlying22 (hval 5 22 v5 rfl rfl) h5
  obtain ⟨a6, len6, cap6, rfl⟩ := okWide_slice Try.underlying23 (hval 6 23 v6 rfl rfl)
  have k6 := h6
  have lt6 : ∀ x ∈ p6, x.block < W.heap.size := by obtain ⟨m, hm⟩ := k6; exact DataW.trod_lt m _ _ _ hm
  obtain ⟨z6, w6⟩ : ∃ zs, IsRow (Value.int .u16) (fun n => (Lit.int .u16 n).wf = true) W a6 len6 cap6 zs := by
    obtain ⟨fuel, hf⟩ := h6
    exact isRow_of (Value.int .u16) (fun n => (Lit.int .u16 n).wf = true) 0 Try.underlying23 (by kernel_rfl) hf (fun n v z hz => by obtain ⟨u, h1, _, h3⟩ := DataW.trod_int Try.underlying41 hz; exact ⟨u, by simpa using h1, h3⟩)
  clear hA0 hval0
  refine (walk a0 a1 a2 a3 len3 cap3 z3 a4 a5 a6 len6 cap6 z6 W w0 w2 w3 w5 w6).mono fun e W' ⟨he, bel⟩ => ?_
  subst he
  exact ⟨_, rfl, _, _, _, [], _, [], hW', trodAll_mk1 (shut_bool Try.underlying4 _), (trodAll_cons_mk (shut_int Try.underlying5 w0) (trodAll_cons_mk (shut_bool Try.underlying4 _) (trodAll_cons_mk (shut_float Try.underlying22 w2) (trodAll_cons_mk (Below.trod laidOut (by kernel_rfl) (of_decide_eq_true (by kernel_rfl)) k3 bel lt3) (trodAll_cons_mk (shut_bool Try.underlying4 _) (trodAll_cons_mk (shut_float Try.underlying22 w5) (trodAll_cons_mk (Below.trod laidOut (by kernel_rfl) (of_decide_eq_true (by kernel_rfl)) k6 bel lt6) trodAll_mk0))))))), rfl, bel.frame _, fun h => by cases h⟩

theorem over : Rows.fnShouldFoldCaseTableRow.holds Try.pinned (OpenSpec.ofChange Rows.fnShouldFoldCaseTableSpec) :=
  OpenClaim.holds_of_wide 3 Try.f3 rfl rfl rfl rfl rfl rfl rfl ⟨rfl, rfl, rfl, rfl, rfl⟩ rfl rfl rfl rfl rfl (by kernel_rfl) Try.func3 (by kernel_rfl)
    (of_decide_eq_true (by kernel_rfl)) (by unfold Func.isWrapper; first | (rw [if_pos (by decide +kernel)]; kernel_rfl) | (rw [if_neg (by decide +kernel)]; exact ⟨rfl, rfl⟩))
    (fun os started H enc _ => lifted os started H enc)

/-- THE STATEMENT -/
theorem proved : Rows.FnShouldFoldCaseTableSaid := over
#print axioms proved
end Go.Proofs.Ytdjiekejkjgamad.fnShouldFoldCaseTable
