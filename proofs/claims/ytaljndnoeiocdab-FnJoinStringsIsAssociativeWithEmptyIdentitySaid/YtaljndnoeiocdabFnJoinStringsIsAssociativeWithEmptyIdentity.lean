/-
  For every three slices of uint16 the law FnJoinStringsIsAssociativeWithEmptyIdentity returns true and leaves its arguments as they were; no condition.
  The frame of this text was written by the kit's program proof-skeleton.mjs for this statement; the walk and its lemmas are the prover's.
-/
import Derived.Test.YtaljndnoeiocdabRows
import Derived.WalkKit
import Derived.ProofKit
import Derived.OpenShut
import Derived.Test.YtaljndnoeiocdabCl16
import Derived.Test.YtaljndnoeiocdabEq16
import Derived.Test.YtaljndnoeiocdabJoin
import Derived.Outline
import Derived.DataReads
import Derived.ShutString
import Derived.ChangeOld
import Derived.Below
import Derived.WalkLawsBesides
import Derived.Deep.Slices
namespace Go.Proofs.Ytaljndnoeiocdab.fnJoinStringsIsAssociativeWithEmptyIdentity
open Go.ChangeShapes Go.WideShapes Go.ChangeAt Go.RowKit
open Go.ChangeMaps (open_string shut_string)
open Go.Deep (open_slice1)
set_option linter.unusedVariables false

theorem own : ownKnob Try.prog.godebug = none := by kernel_rfl
theorem laidOut : laidOutB Try.prog = true := by kernel_rfl

def IsRow {α : Type} (φ : α → Value) (ok : α → Prop) (w : World) (a : Option Addr) (len cap : Nat) (zs : List α) : Prop :=
  (a = none ∧ len = 0 ∧ cap = 0 ∧ zs = []) ∨
  ∃ x, a = some x ∧ len ≤ cap ∧ cap ≤ maxLen ∧ zs.length = len ∧ (∀ i (h : i < zs.length), w.cell? (x.add i) = some (φ zs[i])) ∧ ∀ n ∈ zs, ok n

theorem isRow_of {α : Type} {H : Type} {enc : TypeId × Value → H} {P : Program} {w : World} {held : Bool} {t e : TypeId} {fuel : Nat} {a : Option Addr} {len cap : Nat} {y : DataW H × List MemPlace} (φ : α → Value) (ok : α → Prop) (d0 : α) (ht : P.underlying t = some (.slice e)) (hc : P.cellsOf e = 1)
    (h : DataW.trod enc P w 0 (fun _ => true) held fuel t (Value.slice a len cap).cells.toList = some y)
    (each : ∀ (n : Nat) (v : Value) (z : DataW H × List MemPlace), DataW.trod enc P w 0 (fun _ => true) held n e [v] = some z → ∃ u, v = φ u ∧ ok u) : ∃ zs, IsRow φ ok w a len cap zs := by
  rcases open_slice1 ht hc h with ⟨hcs, _⟩ | ⟨x, l, c, m, n, V, D, Pl, hcs, _, hl, hm, hmm, hy, hx⟩
  · simp [Value.cells] at hcs
    obtain ⟨rfl, rfl, rfl⟩ := hcs
    exact ⟨[], .inl ⟨rfl, rfl, rfl, rfl⟩⟩
  · simp [Value.cells] at hcs
    obtain ⟨rfl, rfl, rfl⟩ := hcs
    simp only [if_true] at hmm
    subst hmm
    have hex : ∀ i, ∃ u, i < len → V i = φ u ∧ ok u := by
      intro i
      by_cases hi : i < len
      · obtain ⟨u, h1, h2⟩ := each n (V i) _ (hx i (by omega)).2
        exact ⟨u, fun _ => ⟨h1, h2⟩⟩
      · exact ⟨d0, fun h => absurd h hi⟩
    refine ⟨(List.range len).map fun i => Classical.choose (hex i), .inr ⟨x, rfl, hl, hm, by simp, ?_, ?_⟩⟩
    · intro i hi
      simp at hi
      rw [(hx i (by omega)).1, (Classical.choose_spec (hex i) hi).1]
      simp
    · intro u hu
      simp at hu
      obtain ⟨i, hi, rfl⟩ := hu
      exact (Classical.choose_spec (hex i) hi).2

theorem block_lt {w : World} {a : Addr} {v : Value} (h : w.cell? a = some v) : a.block < w.heap.size := by
  rcases Nat.lt_or_ge a.block w.heap.size with hlt | hge
  · exact hlt
  · simp [World.cell?, Array.getElem?_eq_none hge] at h
theorem sl_of_row {α : Type} {φ : α → Value} {ok : α → Prop} {w : World} {a : Option Addr} {len cap : Nat} {zs : List α} (h : IsRow φ ok w a len cap zs) : Sl w w.heap.size a len (zs.map φ) ∧ (a = none → len = 0 ∧ cap = 0) := by
  rcases h with ⟨rfl, rfl, rfl, rfl⟩ | ⟨x, rfl, _, _, hl, hc, _⟩
  · exact ⟨Sl.empty, fun _ => ⟨rfl, rfl⟩⟩
  · refine ⟨⟨by simpa using hl, fun hn => ?_⟩, fun h => by cases h⟩
    have h0 := hc 0 (by omega)
    have hx : x.add 0 = x := by simp [Addr.add]
    rw [hx] at h0
    have hs := World.cell?_spot h0
    have hb := block_lt h0
    obtain ⟨b, off, sp⟩ := x
    simp at hs
    subst hs
    refine ⟨b, off, rfl, hb, fun j u hu => ?_⟩
    simp at hu
    obtain ⟨y, hy, rfl⟩ := hu
    have hj : j < zs.length := (List.getElem?_eq_some_iff.1 hy).1
    have := hc j hj
    rw [(List.getElem?_eq_some_iff.1 hy).2] at this
    rw [← this]
    unfold Addr.add
    split
    · rename_i h; simp [h]
    · rfl
def Byt (Q : Prop) (w : World) (e : Ending) (w' : World) : Prop := ∃ b, e = .returned (.bool b) ∧ w = w' ∧ (b = true → Q)
set_option maxRecDepth 100000 in
theorem bytes_any (A B C : Option Addr) (n m k c d f : Nat) (w : World) (h1 : n ≤ 9223372036854775807) (h2 : m ≤ 9223372036854775807) (h3 : k ≤ 9223372036854775807) :
    Calls Try.prog 8 #[.slice A n c, .slice B m d, .slice C k f] w (Byt (n + m + k ≤ big20) w) := by
  go_enter Try.func8, Try.ntmps8
  go_wp2_with fail
  all_goals (go_ret; exact ⟨_, rfl, rfl, fun h => by first | (unfold big20; omega) | cases h⟩)
theorem cloned_made (A : Option Addr) (n c : Nat) (us : List Int) (w : World) (hs : Sl w w.heap.size A n (us.map (Value.int .u16))) (hn : n ≤ big20) (hnil : A = none → n = 0 ∧ c = 0) :
    Calls Try.prog 9 #[.slice A n c] w (Made w n us) :=
  (clone_u16 A n c us w hs hn hnil).mono fun e w' h => by
    rcases h with ⟨rfl, h1, rfl⟩ | ⟨_, h1, rfl⟩
    · obtain ⟨rfl, rfl⟩ := hnil rfl
      exact ⟨_, _, h1, hs, Below.refl _ _⟩
    · have := Sl.new w 43 (us.map (Value.int .u16)) (w.alloc (.cells (us.map (Value.int .u16)).toArray 43)).heap.size (by simp)
      rw [hs.1] at this
      exact ⟨_, _, h1, this, (Below.refl _ _).alloc (Nat.le_refl _) _⟩
theorem len_le {α : Type} {φ : α → Value} {ok : α → Prop} {w : World} {a : Option Addr} {len cap : Nat} {zs : List α} (h : IsRow φ ok w a len cap zs) : len ≤ 9223372036854775807 := by
  rcases h with ⟨rfl, rfl, rfl, rfl⟩ | ⟨x, rfl, h1, h2, _⟩
  · omega
  · unfold maxLen at h2; omega
theorem below_drewN {B : Nat} {w w' : World} (h : Below B w w') (q : Nat) : Below B w (w'.drewN q) := ⟨h.1, h.2, h.3, h.4, h.5⟩

set_option maxRecDepth 100000 in
set_option maxHeartbeats 2000000 in
theorem walk (a0 : Option Addr) (len0 cap0 : Nat) (z0 : List Int) (a1 : Option Addr) (len1 cap1 : Nat) (z1 : List Int) (a2 : Option Addr) (len2 cap2 : Nat) (z2 : List Int) (w : World) (w0 : IsRow (Value.int .u16) (fun n => (Lit.int .u16 n).wf = true) w a0 len0 cap0 z0) (w1 : IsRow (Value.int .u16) (fun n => (Lit.int .u16 n).wf = true) w a1 len1 cap1 z1) (w2 : IsRow (Value.int .u16) (fun n => (Lit.int .u16 n).wf = true) w a2 len2 cap2 z2) :
    Calls Try.prog 4 #[.slice a0 len0 cap0, .slice a1 len1 cap1, .slice a2 len2 cap2] w fun e w' => e = .returned (.bool true) ∧ Below w.heap.size w w' := by
  have l0 := len_le w0
  have l1 := len_le w1
  have l2 := len_le w2
  obtain ⟨s0, n0⟩ := sl_of_row w0
  obtain ⟨s1, n1⟩ := sl_of_row w1
  obtain ⟨s2, n2⟩ := sl_of_row w2
  clear w0 w1 w2
  have N0 := Lib.hid n0
  have N1 := Lib.hid n1
  have N2 := Lib.hid n2
  clear n0 n1 n2
  go_enter Try.func4, Try.ntmps4
  go_wp2_with fail
  refine (bytes_any a0 a1 a2 len0 len1 len2 cap0 cap1 cap2 w l0 l1 l2).mono ?_
  rintro e w1 ⟨b, rfl, rfl, hq⟩
  cases b
  · go_wp2_with fail
    go_ret
    exact ⟨rfl, Below.refl _ _⟩
  have hq' := hq rfl
  clear hq
  have b0 : len0 ≤ big20 := by omega
  have b1 : len1 ≤ big20 := by omega
  have b2 : len2 ≤ big20 := by omega
  have b01 : len0 + len1 ≤ big20 := by omega
  have b12 : len1 + len2 ≤ big20 := by omega
  have b012 : len0 + len1 + len2 ≤ big20 := by omega
  have b012' : len0 + (len1 + len2) ≤ big20 := by omega
  clear hq'
  go_wp2_with fail
  · go_ret
    exact ⟨rfl, Below.refl _ _⟩
  refine (cloned_made a0 len0 cap0 z0 w s0 b0 N0.out).mono ?_
  rintro e w1 ⟨A, c, rfl, sA, hb1⟩
  go_wp2_with fail
  refine (cloned_made a1 len1 cap1 z1 w1 (s1.later hb1) b1 N1.out).mono ?_
  rintro e w2 ⟨B, d, rfl, sB, hb2⟩
  go_wp2_with fail
  refine (cloned_made a2 len2 cap2 z2 w2 (s2.later (hb1.trans (hb2.mono hb1.size))) b2 N2.out).mono ?_
  rintro e w3 ⟨C, f, rfl, sC, hb3⟩
  have sA3 := (sA.later hb2).later hb3
  have sB3 := sB.later hb3
  have bl3 := (hb1.trans (hb2.mono hb1.size)).trans (hb3.mono (Nat.le_trans hb1.size hb2.size))
  clear s0 s1 s2 sA sB hb1 hb2 hb3
  go_wp2_with fail
  refine (joined_made A B len0 len1 c d z0 z1 w3 sA3 sB3 b0 b1).mono ?_
  rintro e w4 ⟨D, c4, rfl, sD, hb4⟩
  go_wp2_with fail
  refine (joined_made D C (len0 + len1) len2 c4 f (z0 ++ z1) z2 w4 sD (sC.later hb4) b01 b2).mono ?_
  rintro e w5 ⟨L, c5, rfl, sL, hb5⟩
  have hb35 := hb4.trans (hb5.mono hb4.size)
  have sA5 := sA3.later hb35
  have sB5 := sB3.later hb35
  have sC5 := sC.later hb35
  clear sA3 sB3 sC sD
  go_wp2_with fail
  refine (joined_made B C len1 len2 d f z1 z2 w5 sB5 sC5 b1 b2).mono ?_
  rintro e w6 ⟨E, c6, rfl, sE, hb6⟩
  go_wp2_with fail
  refine (joined_made A E len0 (len1 + len2) c c6 z0 (z1 ++ z2) w6 (sA5.later hb6) sE b0 b12).mono ?_
  rintro e w7 ⟨R, c7, rfl, sR, hb7⟩
  have hb57 := hb6.trans (hb7.mono hb6.size)
  have sA7 := sA5.later hb57
  have sL7 := sL.later hb57
  have bl7 := bl3.trans ((hb35.mono bl3.size).trans (hb57.mono (Nat.le_trans bl3.size hb35.size)))
  have z7 : w.heap.size ≤ w7.heap.size := bl7.size
  clear sA5 sB5 sC5 sL sE hb4 hb5 hb6 hb7 hb35 hb57 bl3
  have hd : decide (z0 ++ z1 ++ z2 = z0 ++ (z1 ++ z2)) = true := by simp
  have HE := eq_u16 L R (len0 + len1 + len2) (len0 + (len1 + len2)) c5 c7 (z0 ++ z1 ++ z2) (z0 ++ (z1 ++ z2)) w7 sL7 sR b012 b012'
  rw [hd] at HE
  have HE' := Lib.hid HE
  clear HE hd
  go_wp2_with fail
  refine HE'.out.mono ?_
  rintro e w8 ⟨rfl, q, rfl⟩
  clear HE'
  go_wp2_with fail
  have sA8 : Sl (w7.drewN q) (w7.drewN q).heap.size A len0 (z0.map (Value.int .u16)) := sA7
  have J := joined_made none A 0 len0 0 c [] z0 (w7.drewN q) Sl.empty sA8 (Nat.zero_le _) b0
  rw [Nat.zero_add, List.nil_append] at J
  have J' := Lib.hid J
  clear J sA7 sL7 sR
  refine J'.out.mono ?_
  rintro e w9 ⟨F, c9, rfl, sF, hb9⟩
  clear J'
  have bl9 : Below w.heap.size w w9 := (below_drewN bl7 q).trans (hb9.mono z7)
  have sA9 := sA8.later hb9
  clear sA8
  have hd : decide (z0 = z0) = true := by simp
  have HE := eq_u16 F A len0 len0 c9 c z0 z0 w9 sF sA9 b0 b0
  rw [hd] at HE
  have HE' := Lib.hid HE
  clear HE hd
  go_wp2_with fail
  refine HE'.out.mono ?_
  rintro e w10 ⟨rfl, q2, rfl⟩
  clear HE'
  have sA10 : Sl (w9.drewN q2) (w9.drewN q2).heap.size A len0 (z0.map (Value.int .u16)) := sA9
  have J := joined_made A none len0 0 c 0 z0 [] (w9.drewN q2) sA10 Sl.empty b0 (Nat.zero_le _)
  rw [Nat.add_zero, List.append_nil] at J
  have J' := Lib.hid J
  clear J sA9
  go_wp2_with fail
  refine J'.out.mono ?_
  rintro e w11 ⟨G, c11, rfl, sG, hb11⟩
  clear J'
  have bl11 : Below w.heap.size w w11 := (below_drewN bl9 q2).trans (hb11.mono bl9.size)
  have sA11 := sA10.later hb11
  have hd : decide (z0 = z0) = true := by simp
  have HE := eq_u16 G A len0 len0 c11 c z0 z0 w11 sG sA11 b0 b0
  rw [hd] at HE
  have HE' := Lib.hid HE
  clear HE hd
  go_wp2_with fail
  refine HE'.out.mono ?_
  rintro e w12 ⟨rfl, q3, rfl⟩
  go_wp2_with fail
  go_ret
  exact ⟨rfl, below_drewN bl11 q3⟩

/-! ### THE ROW's STEP: WRITTEN OUT: LEAVE IT -/
set_option maxRecDepth 100000 in
theorem lifted (os : Os) (started : os.Started) (H : Type) (enc : TypeId × Value → H) :
    ReturnsInHanded {} Try.checked os 4 .any (Rows.fnJoinStringsIsAssociativeWithEmptyIdentitySpec.pre6 enc Try.prog Try.f4 Rows.fnJoinStringsIsAssociativeWithEmptyIdentityRow.domain false) (Rows.fnJoinStringsIsAssociativeWithEmptyIdentitySpec.post enc Try.prog Try.f4 false true false false) := by
  refine returnsInHanded_of_change (C := Try.checked) own started (by kernel_rfl) Try.func4
    (ChangeSpec.witness6 (enc := enc) (C := Try.checked) false ⟨#[], #[.slice none 0 0, .slice none 0 0, .slice none 0 0], []⟩ 8 (by kernel_rfl) (by kernel_rfl) (by kernel_rfl) (by kernel_rfl)) ?_
  intro W base args ds gs before hval0 hW hcnd _
  have hval : ∀ (j : Nat) t v, Try.f4.params[j]? = some t → args[j]? = some v → Value.okWide Try.prog W .any base t v := hval0
  have hW' := hW
  obtain ⟨p, q, hA0, hV, rfl, hfz, hnd⟩ := hW
  have hA : DataW.TrodAll enc Try.prog W 0 (fun _ => true) true Try.f4.params.toList args.toList ds p := hA0
  rw [Try.params4] at hA hval
  obtain ⟨v0, vs0, d0, ds0, p0, q0, hargs, rfl, rfl, h0, r0⟩ := trodAll_cons hA
  obtain ⟨v1, vs1, d1, ds1, p1, q1, rfl, rfl, rfl, h1, r1⟩ := trodAll_cons r0
  obtain ⟨v2, vs2, d2, ds2, p2, q2, rfl, rfl, rfl, h2, r2⟩ := trodAll_cons r1
  obtain ⟨rfl, rfl, rfl⟩ := trodAll_nil r2
  obtain rfl : args = #[v0, v1, v2] := by cases args; simp_all
  obtain ⟨rfl, rfl⟩ := trodVars_none hV
  obtain ⟨a0, len0, cap0, rfl⟩ := okWide_slice Try.underlying38 (hval 0 38 v0 rfl rfl)
  have k0 := h0
  have lt0 : ∀ x ∈ p0, x.block < W.heap.size := by obtain ⟨m, hm⟩ := k0; exact DataW.trod_lt m _ _ _ hm
  obtain ⟨z0, w0⟩ : ∃ zs, IsRow (Value.int .u16) (fun n => (Lit.int .u16 n).wf = true) W a0 len0 cap0 zs := by
    obtain ⟨fuel, hf⟩ := h0
    exact isRow_of (Value.int .u16) (fun n => (Lit.int .u16 n).wf = true) 0 Try.underlying38 (by kernel_rfl) hf (fun n v z hz => by obtain ⟨u, h1, _, h3⟩ := DataW.trod_int Try.underlying43 hz; exact ⟨u, by simpa using h1, h3⟩)
  obtain ⟨a1, len1, cap1, rfl⟩ := okWide_slice Try.underlying38 (hval 1 38 v1 rfl rfl)
  have k1 := h1
  have lt1 : ∀ x ∈ p1, x.block < W.heap.size := by obtain ⟨m, hm⟩ := k1; exact DataW.trod_lt m _ _ _ hm
  obtain ⟨z1, w1⟩ : ∃ zs, IsRow (Value.int .u16) (fun n => (Lit.int .u16 n).wf = true) W a1 len1 cap1 zs := by
    obtain ⟨fuel, hf⟩ := h1
    exact isRow_of (Value.int .u16) (fun n => (Lit.int .u16 n).wf = true) 0 Try.underlying38 (by kernel_rfl) hf (fun n v z hz => by obtain ⟨u, h1, _, h3⟩ := DataW.trod_int Try.underlying43 hz; exact ⟨u, by simpa using h1, h3⟩)
  obtain ⟨a2, len2, cap2, rfl⟩ := okWide_slice Try.underlying38 (hval 2 38 v2 rfl rfl)
  have k2 := h2
  have lt2 : ∀ x ∈ p2, x.block < W.heap.size := by obtain ⟨m, hm⟩ := k2; exact DataW.trod_lt m _ _ _ hm
  obtain ⟨z2, w2⟩ : ∃ zs, IsRow (Value.int .u16) (fun n => (Lit.int .u16 n).wf = true) W a2 len2 cap2 zs := by
    obtain ⟨fuel, hf⟩ := h2
    exact isRow_of (Value.int .u16) (fun n => (Lit.int .u16 n).wf = true) 0 Try.underlying38 (by kernel_rfl) hf (fun n v z hz => by obtain ⟨u, h1, _, h3⟩ := DataW.trod_int Try.underlying43 hz; exact ⟨u, by simpa using h1, h3⟩)
  clear hA0 hval0
  refine (walk a0 len0 cap0 z0 a1 len1 cap1 z1 a2 len2 cap2 z2 W w0 w1 w2).mono fun e W' ⟨he, bel⟩ => ?_
  subst he
  exact ⟨_, rfl, _, _, _, [], _, [], hW', trodAll_mk1 (shut_bool Try.underlying4 _), (trodAll_cons_mk (Below.trod laidOut (by kernel_rfl) (of_decide_eq_true (by kernel_rfl)) k0 bel lt0) (trodAll_cons_mk (Below.trod laidOut (by kernel_rfl) (of_decide_eq_true (by kernel_rfl)) k1 bel lt1) (trodAll_cons_mk (Below.trod laidOut (by kernel_rfl) (of_decide_eq_true (by kernel_rfl)) k2 bel lt2) trodAll_mk0))), rfl, bel.frame _, fun h => by cases h⟩

theorem over : Rows.fnJoinStringsIsAssociativeWithEmptyIdentityRow.holds Try.pinned (OpenSpec.ofChange Rows.fnJoinStringsIsAssociativeWithEmptyIdentitySpec) :=
  OpenClaim.holds_of_wide 4 Try.f4 rfl rfl rfl rfl rfl rfl rfl ⟨rfl, rfl, rfl, rfl, rfl⟩ rfl rfl rfl rfl rfl (by kernel_rfl) Try.func4 (by kernel_rfl)
    (of_decide_eq_true (by kernel_rfl)) (by unfold Func.isWrapper; first | (rw [if_pos (by decide +kernel)]; kernel_rfl) | (rw [if_neg (by decide +kernel)]; exact ⟨rfl, rfl⟩))
    (fun os started H enc _ => lifted os started H enc)

/-- THE STATEMENT -/
theorem proved : Rows.FnJoinStringsIsAssociativeWithEmptyIdentitySaid := over
#print axioms proved
end Go.Proofs.Ytaljndnoeiocdab.fnJoinStringsIsAssociativeWithEmptyIdentity
