/-
  The law FnInlinePrimitivesIntoTemplateFoldsStringParts answers true; no statement of its own.
-/
import Derived.Test.YtlmjnlijoodbiaaDoorRows
import Derived.WalkKit
import Derived.ProofKit
import Derived.OpenShut
import Derived.Test.YtlmjnlijoodbiaaDoorSlW
import Derived.Test.YtlmjnlijoodbiaaDoorIpC
import Derived.Test.YtlmjnlijoodbiaaDoorIpE
import Derived.Test.YtlmjnlijoodbiaaDoorIpA
import Derived.Test.YtlmjnlijoodbiaaDoorIpB
import Derived.Test.YtlmjnlijoodbiaaDoorIpR
import Derived.Test.YtlmjnlijoodbiaaDoorIpT
import Derived.Test.YtlmjnlijoodbiaaDoorIpS
import Derived.Test.YtlmjnlijoodbiaaDoorIpH
import Derived.Test.YtlmjnlijoodbiaaDoorIpM
import Derived.Test.YtlmjnlijoodbiaaDoorIpI
import Derived.Test.YtlmjnlijoodbiaaDoorIpJ
import Derived.Test.YtlmjnlijoodbiaaDoorIpK
import Derived.Test.YtlmjnlijoodbiaaDoorIpN
import Derived.WalkLawsBesides
import Derived.WalkSpells
import Derived.Below
import Derived.Lib.Hide
import Derived.Outline
import Derived.OwnWalk
import Derived.LoopTactic
import Derived.RegionTactic
import Derived.Laws.Rows
import Derived.Laws.MakeOwn
import Derived.LaidEqlPtr
import Derived.ArgAppend
import Derived.Deep.Cut
import Derived.Deep.QuietTactic
import Derived.BigQuiet
namespace Go.Proofs.YtlmjnlijoodbiaaDoor
open Go.ChangeShapes Go.WideShapes Go.ChangeAt Go.RowKit

set_option linter.unusedVariables false

theorem info_bool : (Tryd.prog.info? 4).map (fun i => (i.zero, i.size, i.bytes)) = some (some (.bool false), 1, 1) := by kernel_rfl
theorem sumL_split (V T : Nat → List Int) : ∀ k, sumL V T k = sumN V k + sumN T k := by
  intro k
  induction k with
  | zero => rfl
  | succ k ih => simp only [sumL, sumN]; omega
theorem sumN_cut (V V2 : Nat → List Int) (n2 : Nat) (h0 : ∀ i, i < n2 → V i = V2 i) (h1 : ∀ i, n2 ≤ i → V i = []) : ∀ k, sumN V k ≤ sumN V2 n2 ∧ (k ≤ n2 → sumN V k = sumN V2 k) := by
  intro k
  induction k with
  | zero => exact ⟨Nat.zero_le _, fun _ => rfl⟩
  | succ k ih =>
    rcases Nat.lt_or_ge k n2 with h | h
    · have e : sumN V (k + 1) = sumN V2 (k + 1) := by simp only [sumN, h0 k h]; rw [ih.2 (by omega)]
      exact ⟨by rw [e]; exact sumN_le V2 n2 k h, fun _ => e⟩
    · have e : sumN V (k + 1) = sumN V k := by simp [sumN, h1 k h]
      exact ⟨by rw [e]; exact ih.1, fun hl => by omega⟩
theorem Row.slb {w : World} {B : Nat} {a : Option Addr} {l c : Nat} {us : List Int} (h : Row w B (.slice a l c) us) : Sl w B a l (us.map (Value.int .u16)) := by
  rcases h with ⟨h, rfl⟩ | ⟨g, c', cs, h1, h2, h3, h4⟩
  · simp only [Value.slice.injEq] at h
    obtain ⟨rfl, rfl, rfl⟩ := h
    exact Sl.empty
  · have hr : Row w B (.slice (some ⟨g, 0, none⟩) us.length c') us := .inr ⟨g, c', cs, rfl, h2, h3, h4⟩
    simp only [Value.slice.injEq] at h1
    obtain ⟨rfl, rfl, rfl⟩ := h1
    refine ⟨by simp, fun _ => ⟨g, 0, rfl, h3, fun j u hu => ?_⟩⟩
    rw [Nat.zero_add]; exact hr.cells j u hu
theorem Ex.nilc {w : World} {B : Nat} {a : Option Addr} {l c : Nat} {us : List Int} (h : Ex w B (.slice a l c) us) (ha : a = none) : l = 0 ∧ c = 0 := by
  subst ha
  rcases h with ⟨h, _⟩ | ⟨g, h1, _⟩
  · simp only [Value.slice.injEq] at h; exact ⟨h.2.1, h.2.2⟩
  · simp at h1
theorem eq_same (A B : Option Addr) (l c l' d : Nat) (us : List Int) (w : World) (hs : Sl w w.heap.size A l (us.map (Value.int .u16))) (ht : Sl w w.heap.size B l' (us.map (Value.int .u16))) (hn : us.length ≤ 1048576) (x : Nat) :
    Calls Tryd.prog 12 #[.slice A l c, .slice B l' d] (w.drewN x) fun e w' => e = .returned (.bool true) ∧ ∃ m, w' = (w.drewN x).drewN m := by
  have h1 : us.length = l := by have := hs.1; simpa using this
  have h2 : us.length = l' := by have := ht.1; simpa using this
  exact (eq_u16 A B l l' c d us us (w.drewN x) hs ht (by show l ≤ 1048576; omega) (by show l' ≤ 1048576; omega)).mono fun e w' ⟨he, hq⟩ => ⟨by rw [he, decide_eq_true rfl], hq⟩
theorem Node.ref {w : World} {B i : Nat} {b : Bool} {v d : Value} (h : Node w B b i v d) (hi : i < 4294967296) : RefOf w d (if b then -1 else (i : Int)) := by
  obtain ⟨g, h1, h2, ⟨rfl, h4, h5⟩ | ⟨rfl, h4, h5⟩⟩ := h
  · exact .inr ⟨g, h4, rfl⟩
  · exact .inl ⟨g, i, h4, rfl, hi, h5⟩
/-- The untagged answer, whatever it is, in one form. -/
theorem Inl.any {w w' : World} {n : Nat} {loc hl : Int} {m : List (List Int) × List Nat × List Int} {e : Ending} (h : Inl w n loc hl m e w') : ∃ T g, e = .returned (.agg #[.iface T (ptr g), .int .i32 loc]) := by
  obtain ⟨_, ⟨_, g, v, h1, _⟩ | ⟨_, g, P, hv, f, h1, _⟩⟩ := h
  · exact ⟨_, _, h1⟩
  · exact ⟨_, _, h1⟩
theorem bseq {a b c : World} (h : Below a.heap.size a b) (k : Below b.heap.size b c) : Below a.heap.size a c := h.trans (k.mono h.size)
theorem info_et : (Tryd.prog.info? 48).isSome = true := by kernel_rfl
theorem segs_at (isS : Nat → Bool) (V T : Nat → List Int) (head : List Int) (k i : Nat) (hi : i ≤ (Fs isS V T head k).2.1.length) : ∃ s, (segs (Fs isS V T head k))[i]? = some s ∧ s.length ≤ head.length + sumL V T k := by
  have hl := (Fs.len isS V T head k).1
  have hlt : i < (segs (Fs isS V T head k)).length := by unfold segs; rw [List.length_append, List.length_singleton]; omega
  refine ⟨_, List.getElem?_eq_getElem hlt, ?_⟩
  have hm := List.getElem_mem hlt
  unfold segs at hm
  rcases List.mem_append.1 hm with h | h
  · exact Fs.bounds isS V T head k _ h
  · have e := List.mem_singleton.1 h
    exact Nat.le_trans (Nat.le_of_eq (congrArg List.length e)) (Fs.bound isS V T head k)
theorem getD_at (l : List Nat) (i : Nat) (h : i < l.length) : l[i]? = some (l.getD i 0) := by
  rw [List.getD_eq_getElem?_getD, List.getElem?_eq_getElem h]; rfl
theorem add_cell (g j : Nat) : (⟨g, 0, none⟩ : Addr).add j = ⟨g, j, none⟩ := by unfold Addr.add; split <;> simp_all
set_option maxRecDepth 100000 in
set_option maxHeartbeats 8000000 in
theorem law (W : World) (a0 a1 a2 a3 : Option Addr) (n0 c0 n1 c1 n2 c2 n3 c3 : Nat) (tg : Bool) (lo hl : Int) (hd : List Int) (bs : List Bool) (v2 v3 : Nat → Value) (V2 V3 : Nat → List Int) (h0 : Sl W W.heap.size a0 n0 (hd.map (Value.int .u16))) (hnil : a0 = none → n0 = 0 ∧ c0 = 0) (h1 : Sl W W.heap.size a1 n1 (bs.map Value.bool))
    (h2 : Rws W W.heap.size a2 n2 v2 V2) (h3 : Rws W W.heap.size a3 n3 v3 V3) (b0 : n0 ≤ maxLen) (b1 : n1 ≤ maxLen) (b2 : n2 ≤ maxLen) (b3 : n3 ≤ maxLen) :
    Calls Tryd.prog 3 #[.slice a0 n0 c0, .slice a1 n1 c1, .slice a2 n2 c2, .slice a3 n3 c3, .bool tg, .int .i32 lo, .int .i32 hl] W fun e W' => e = .returned (.bool true) ∧ Below W.heap.size W W' := by
  have H0 := Lib.hid h0
  have HN := Lib.hid hnil
  have H1 := Lib.hid h1
  have H2 := Lib.hid h2
  have H3 := Lib.hid h3
  have B0 := Lib.hid b0
  have B1 := Lib.hid b1
  have B2 := Lib.hid b2
  have B3 := Lib.hid b3
  unfold maxLen at b0 b1 b2 b3
  clear h0 hnil h1 h2 h3
  go_enter Tryd.func3, Tryd.ntmps3
  go_wp2_with fail
  refine (bytes W a0 a1 a2 a3 n0 c0 n1 c1 n2 c2 n3 c3 tg lo hl v2 v3 V2 V3 B0.out B1.out H2.out H3.out B2.out B3.out).mono ?_
  rintro e w1 ⟨rfl, b, rfl, hby⟩
  cases b
  · go_wp2_with fail
    go_ret
    exact ⟨rfl, Below.refl _ _⟩
  have HBY := Lib.hid (hby rfl)
  clear hby b0 b1 b2 b3
  by_cases g0 : n0 ≤ 262144
  rotate_left
  · go_wp2_with fail
    go_ret
    exact ⟨rfl, Below.refl _ _⟩
  by_cases g1 : n1 ≤ 4096
  rotate_left
  · go_wp2_with fail
    go_ret
    exact ⟨rfl, Below.refl _ _⟩
  by_cases g2 : n2 ≤ 4096
  rotate_left
  · go_wp2_with fail
    go_ret
    exact ⟨rfl, Below.refl _ _⟩
  by_cases g3 : n3 ≤ 4096
  rotate_left
  · go_wp2_with fail
    go_ret
    exact ⟨rfl, Below.refl _ _⟩
  go_wp2_with fail
  refine (nested w1 a2 n2 c2 v2 V2 H2.out g2).mono ?_
  rintro e w2 ⟨rfl, r2, rfl⟩
  go_wp2_with fail
  refine (nested w2 a3 n3 c3 v3 V3 H3.out g3).mono ?_
  rintro e w3 ⟨rfl, r3, rfl⟩
  obtain ⟨W, rfl⟩ : ∃ X : World, X = w3 := ⟨_, rfl⟩
  go_upto_region 7 with fail
  · go_wp2_with fail
    go_ret
    exact ⟨rfl, Below.refl _ _⟩
  obtain ⟨isS, his0, his1⟩ : ∃ f : Nat → Bool, (∀ i, i < n1 → bs[i]? = some (f i)) ∧ ∀ i, n1 ≤ i → f i = false := by
    have hl : bs.length = n1 := by have := H1.out.1; simpa using this
    refine ⟨fun i => bs.getD i false, fun i hi => ?_, fun i hi => ?_⟩
    · show bs[i]? = some (bs.getD i false)
      rw [List.getD_eq_getElem?_getD, List.getElem?_eq_getElem (by omega)]; rfl
    · show bs.getD i false = false
      rw [List.getD_eq_getElem?_getD, List.getElem?_eq_none (by omega)]; rfl
  obtain ⟨V, hv0, hv1⟩ : ∃ f : Nat → List Int, (∀ i, i < n2 → f i = V2 i) ∧ ∀ i, n2 ≤ i → f i = [] := ⟨fun i => if i < n2 then V2 i else [], fun i hi => if_pos hi, fun i hi => if_neg (by omega)⟩
  have IS0 := Lib.hid his0
  have IS1 := Lib.hid his1
  have VV0 := Lib.hid hv0
  have VV1 := Lib.hid hv1
  obtain ⟨i0, gi, gz0, gz1, gz2⟩ := info_three info_bool
  have hmk := run_make (P := Tryd.prog) W 23 4 i0 (.bool false) Tryd.underlying23 gi gz0 .i64 .i64 n3 n3 (by omega) (by omega) (by rw [gz2]; omega) (by omega)
  simp only [gz1, Int.toNat_natCast, Nat.mul_one] at hmk
  obtain ⟨j0, ki, kz0, kz1, kz2⟩ := info_three info_sl
  have hmk2 := fun w : World => run_make (P := Tryd.prog) w 24 22 j0 (.slice none 0 0) Tryd.underlying24 ki kz0 .i64 .i64 n3 n3 (by omega) (by omega) (by rw [kz2]; omega) (by omega)
  simp only [kz1, Int.toNat_natCast, Nat.mul_one] at hmk2
  clear his0 his1 hv0 hv1 gi gz0 gz1 gz2 ki kz0 kz1 kz2
  go_wp2_with fail
  clear hmk hmk2
  go_loopw [19] (fun i wr => ∃ k : Nat, k ≤ n3 ∧ i = .int .i64 k ∧ Hid (L1 W wr W.heap.size (W.heap.size + 1) (W.heap.size + 1 + 1) n3 isS V V3 k k k)) (fun i _ => n3 - (intOf i).toNat)
  case atStart =>
    refine ⟨0, by omega, rfl, ?_, ?_, ?_, ?_, by omega, by omega, by omega, by omega⟩
    · exact (((Cl.made W n3 W.heap.size 4 (.bool false) rfl rfl).alloc _).alloc _).imp fun i v hi hp hl => by omega
    · exact ((Cl.made _ n3 (W.heap.size + 1) 22 (.slice none 0 0) rfl (by simp)).alloc _).imp fun i v hi hp => ⟨fun hl => by omega, fun _ => hp⟩
    · exact (Cl.made _ n3 (W.heap.size + 1 + 1) 22 (.slice none 0 0) rfl (by simp)).imp fun i v hi hp hl => by omega
    · exact (((Below.refl _ _).alloc (Nat.le_refl _) _).alloc (by simp) _).alloc (by simp; omega) _
  case round =>
    obtain ⟨k, hk, rfl, H⟩ := hrel
    by_cases hlt : k < n3
    · have z0 := H.out.bl.size
      have l0 : (0 : Int) ≤ (k : Int) := by omega
      have l1 : (k : Int) < (n3 : Int) := by omega
      obtain ⟨yb, hyb, -⟩ := H.out.ib.cell hlt
      have fb := H.out.ib.frozen k
      have zb := H.out.ib.lt
      by_cases q1 : k < n1
      · obtain ⟨b, off, u, ha1, hb, hu, hc⟩ := (H1.out.below H.out.bl).at_ q1
        obtain ⟨x, hx, rfl⟩ : ∃ x, bs[k]? = some x ∧ Value.bool x = u := by simpa using hu
        have hxs : x = isS k := by have := IS0.out k q1; rw [hx] at this; exact Option.some.inj this
        have HXS := Lib.hid hxs
        subst ha1
        have zbb : b < wr.heap.size := by omega
        have nb : (b = W.heap.size) = False := eq_false (by omega)
        clear hx hu hxs
        go_upto_region 15 with fail
        obtain ⟨w5, hw5⟩ : ∃ w5, w5 = wr.setCell ⟨W.heap.size, k, none⟩ (.bool x) := ⟨_, rfl⟩
        rw [← hw5]
        have A5 : Hid (L1 W w5 W.heap.size (W.heap.size + 1) (W.heap.size + 1 + 1) n3 isS V V3 (k + 1) k k) := Lib.hid (by rw [hw5]; exact H.out.i (by rw [HXS.out]))
        clear hw5 hyb fb zb hc
        have z5 := A5.out.bl.size
        by_cases q2 : k < n2
        · obtain ⟨b2, o2, ha2, hb2, hc2, A2, d2, hv2, hs2, hn2⟩ := (H2.out.below A5.out.bl) k q2
          subst ha2
          rw [hv2] at hc2
          have zb2 : b2 < w5.heap.size := by omega
          have HS2 := Lib.hid (hs2.more z5)
          have HN2 := Lib.hid hn2
          clear hv2 hs2 hn2
          go_wp2_with fail
          refine (clone_row A2 (V2 k).length d2 (V2 k) w5 HS2.out (by have h1 := sumN_le V2 n2 k q2; have h2 := HBY.out; show _ ≤ 1048576; omega) HN2.out).mono ?_
          rintro e w6 ⟨v, rfl, hex, hbl⟩
          have A6 := Lib.hid (A5.out.later hbl)
          obtain ⟨av, cv, hfv⟩ := hex.row.form
          subst hfv
          obtain ⟨yv, hyv, -⟩ := A6.out.vb.cell hlt
          have fv := A6.out.vb.frozen k
          have zv := A6.out.vb.lt
          have HEX := Lib.hid hex
          clear hex hbl
          go_upto_region 17 with fail
          obtain ⟨w7, hw7⟩ : ∃ w7, w7 = w6.setCell ⟨W.heap.size + 1, k, none⟩ (.slice av (V2 k).length cv) := ⟨_, rfl⟩
          rw [← hw7]
          have A7 : Hid (L1 W w7 W.heap.size (W.heap.size + 1) (W.heap.size + 1 + 1) n3 isS V V3 (k + 1) (k + 1) k) := Lib.hid (by rw [hw7]; exact A6.out.v (by rw [VV0.out k q2]; exact HEX.out))
          clear hw7 hyv fv zv HEX hc2
          obtain ⟨b3, o3, ha3, hb3, hc3, A3, d3, hv3, hs3, hn3⟩ := (H3.out.below A7.out.bl) k hlt
          subst ha3
          rw [hv3] at hc3
          have z7 := A7.out.bl.size
          have zb3 : b3 < w7.heap.size := by omega
          have HS3 := Lib.hid (hs3.more z7)
          have HN3 := Lib.hid hn3
          clear hv3 hs3 hn3
          go_wp2_with fail
          refine (clone_row A3 (V3 k).length d3 (V3 k) w7 HS3.out (by have h1 := sumN_le V3 n3 k hlt; have h2 := HBY.out; show _ ≤ 1048576; omega) HN3.out).mono ?_
          rintro e w8 ⟨v, rfl, hex, hbl⟩
          have A8 := Lib.hid (A7.out.later hbl)
          obtain ⟨av, cv, hfv⟩ := hex.row.form
          subst hfv
          obtain ⟨yt, hyt, -⟩ := A8.out.tb.cell hlt
          have ft := A8.out.tb.frozen k
          have zt := A8.out.tb.lt
          have HEX := Lib.hid hex
          clear hex hbl
          go_wp2_with fail
          go_roundw
          case rel => exact ⟨k + 1, by omega, by go_num, A8.out.t HEX.out⟩
          case measure => simp [intOf]; omega
        · have A7 := Lib.hid (A5.out.v0 (VV1.out k (by omega)))
          go_upto_region 17 with fail
          obtain ⟨w7, rfl⟩ : ∃ X : World, X = w5 := ⟨_, rfl⟩
          obtain ⟨b3, o3, ha3, hb3, hc3, A3, d3, hv3, hs3, hn3⟩ := (H3.out.below A7.out.bl) k hlt
          subst ha3
          rw [hv3] at hc3
          have z7 := A7.out.bl.size
          have zb3 : b3 < w7.heap.size := by omega
          have HS3 := Lib.hid (hs3.more z7)
          have HN3 := Lib.hid hn3
          clear hv3 hs3 hn3
          go_wp2_with fail
          refine (clone_row A3 (V3 k).length d3 (V3 k) w7 HS3.out (by have h1 := sumN_le V3 n3 k hlt; have h2 := HBY.out; show _ ≤ 1048576; omega) HN3.out).mono ?_
          rintro e w8 ⟨v, rfl, hex, hbl⟩
          have A8 := Lib.hid (A7.out.later hbl)
          obtain ⟨av, cv, hfv⟩ := hex.row.form
          subst hfv
          obtain ⟨yt, hyt, -⟩ := A8.out.tb.cell hlt
          have ft := A8.out.tb.frozen k
          have zt := A8.out.tb.lt
          have HEX := Lib.hid hex
          clear hex hbl
          go_wp2_with fail
          go_roundw
          case rel => exact ⟨k + 1, by omega, by go_num, A8.out.t HEX.out⟩
          case measure => simp [intOf]; omega
      · go_upto_region 15 with fail
        obtain ⟨w5, hw5⟩ : ∃ w5, w5 = wr.setCell ⟨W.heap.size, k, none⟩ (.bool false) := ⟨_, rfl⟩
        rw [← hw5]
        have A5 : Hid (L1 W w5 W.heap.size (W.heap.size + 1) (W.heap.size + 1 + 1) n3 isS V V3 (k + 1) k k) := Lib.hid (by rw [hw5]; exact H.out.i (by rw [IS1.out k (by omega)]))
        clear hw5 hyb fb zb
        have z5 := A5.out.bl.size
        by_cases q2 : k < n2
        · obtain ⟨b2, o2, ha2, hb2, hc2, A2, d2, hv2, hs2, hn2⟩ := (H2.out.below A5.out.bl) k q2
          subst ha2
          rw [hv2] at hc2
          have zb2 : b2 < w5.heap.size := by omega
          have HS2 := Lib.hid (hs2.more z5)
          have HN2 := Lib.hid hn2
          clear hv2 hs2 hn2
          go_wp2_with fail
          refine (clone_row A2 (V2 k).length d2 (V2 k) w5 HS2.out (by have h1 := sumN_le V2 n2 k q2; have h2 := HBY.out; show _ ≤ 1048576; omega) HN2.out).mono ?_
          rintro e w6 ⟨v, rfl, hex, hbl⟩
          have A6 := Lib.hid (A5.out.later hbl)
          obtain ⟨av, cv, hfv⟩ := hex.row.form
          subst hfv
          obtain ⟨yv, hyv, -⟩ := A6.out.vb.cell hlt
          have fv := A6.out.vb.frozen k
          have zv := A6.out.vb.lt
          have HEX := Lib.hid hex
          clear hex hbl
          go_upto_region 17 with fail
          obtain ⟨w7, hw7⟩ : ∃ w7, w7 = w6.setCell ⟨W.heap.size + 1, k, none⟩ (.slice av (V2 k).length cv) := ⟨_, rfl⟩
          rw [← hw7]
          have A7 : Hid (L1 W w7 W.heap.size (W.heap.size + 1) (W.heap.size + 1 + 1) n3 isS V V3 (k + 1) (k + 1) k) := Lib.hid (by rw [hw7]; exact A6.out.v (by rw [VV0.out k q2]; exact HEX.out))
          clear hw7 hyv fv zv HEX hc2
          obtain ⟨b3, o3, ha3, hb3, hc3, A3, d3, hv3, hs3, hn3⟩ := (H3.out.below A7.out.bl) k hlt
          subst ha3
          rw [hv3] at hc3
          have z7 := A7.out.bl.size
          have zb3 : b3 < w7.heap.size := by omega
          have HS3 := Lib.hid (hs3.more z7)
          have HN3 := Lib.hid hn3
          clear hv3 hs3 hn3
          go_wp2_with fail
          refine (clone_row A3 (V3 k).length d3 (V3 k) w7 HS3.out (by have h1 := sumN_le V3 n3 k hlt; have h2 := HBY.out; show _ ≤ 1048576; omega) HN3.out).mono ?_
          rintro e w8 ⟨v, rfl, hex, hbl⟩
          have A8 := Lib.hid (A7.out.later hbl)
          obtain ⟨av, cv, hfv⟩ := hex.row.form
          subst hfv
          obtain ⟨yt, hyt, -⟩ := A8.out.tb.cell hlt
          have ft := A8.out.tb.frozen k
          have zt := A8.out.tb.lt
          have HEX := Lib.hid hex
          clear hex hbl
          go_wp2_with fail
          go_roundw
          case rel => exact ⟨k + 1, by omega, by go_num, A8.out.t HEX.out⟩
          case measure => simp [intOf]; omega
        · have A7 := Lib.hid (A5.out.v0 (VV1.out k (by omega)))
          go_upto_region 17 with fail
          obtain ⟨w7, rfl⟩ : ∃ X : World, X = w5 := ⟨_, rfl⟩
          obtain ⟨b3, o3, ha3, hb3, hc3, A3, d3, hv3, hs3, hn3⟩ := (H3.out.below A7.out.bl) k hlt
          subst ha3
          rw [hv3] at hc3
          have z7 := A7.out.bl.size
          have zb3 : b3 < w7.heap.size := by omega
          have HS3 := Lib.hid (hs3.more z7)
          have HN3 := Lib.hid hn3
          clear hv3 hs3 hn3
          go_wp2_with fail
          refine (clone_row A3 (V3 k).length d3 (V3 k) w7 HS3.out (by have h1 := sumN_le V3 n3 k hlt; have h2 := HBY.out; show _ ≤ 1048576; omega) HN3.out).mono ?_
          rintro e w8 ⟨v, rfl, hex, hbl⟩
          have A8 := Lib.hid (A7.out.later hbl)
          obtain ⟨av, cv, hfv⟩ := hex.row.form
          subst hfv
          obtain ⟨yt, hyt, -⟩ := A8.out.tb.cell hlt
          have ft := A8.out.tb.frozen k
          have zt := A8.out.tb.lt
          have HEX := Lib.hid hex
          clear hex hbl
          go_wp2_with fail
          go_roundw
          case rel => exact ⟨k + 1, by omega, by go_num, A8.out.t HEX.out⟩
          case measure => simp [intOf]; omega
    · obtain rfl : k = n3 := by omega
      obtain ⟨w0, rfl⟩ : ∃ X : World, X = wr := ⟨_, rfl⟩
      have z0 := H.out.bl.size
      obtain ⟨j0, ki, kz0, kz1, kz2⟩ := info_three info_sl
      have e1 : ((k : Int) + 1).toNat = k + 1 := by omega
      have hmk3 := fun w : World => run_make (P := Tryd.prog) w 24 22 j0 (.slice none 0 0) Tryd.underlying24 ki kz0 .i64 .i64 0 ((k : Int) + 1) (by omega) (by omega) (by rw [kz2]; omega) (by omega)
      simp only [kz1, Nat.mul_one, e1] at hmk3
      obtain ⟨x0, xi, xz0, xz1, xz2⟩ := info_three info_i64
      have hmk4 := fun w : World => run_make (P := Tryd.prog) w 28 2 x0 (.int .i64 0) Tryd.underlying28 xi xz0 .i64 .i64 0 k (by omega) (by omega) (by rw [xz2]; omega) (by omega)
      simp only [xz1, Int.toNat_natCast, Nat.mul_one] at hmk4
      clear ki kz0 kz1 kz2 xi xz0 xz1 xz2 e1
      obtain ⟨n, rfl⟩ : ∃ n : Nat, n = k := ⟨_, rfl⟩
      have HL := H
      clear H hk hlt
      have HSUM : Hid (hd.length + sumL V V3 n ≤ 1048576) := Lib.hid (by
        have h1 := HBY.out
        have h2 := (sumN_cut V V2 n2 VV0.out VV1.out n).1
        have h3 := sumL_split V V3 n
        have h4 : hd.length = n0 := by have := H0.out.1; simpa using this
        omega)
      go_wp2_with fail
      clear hmk3 hmk4
      refine (clone_row a0 n0 c0 hd _ ((H0.out.below (((HL.out.bl.alloc z0 _).alloc (by simp; omega) _))).more (by simp; omega)) (by show n0 ≤ 1048576; omega) HN.out).mono ?_
      rintro e w4 ⟨v, rfl, hex, hbl⟩
      obtain ⟨av, cv, hfv⟩ := hex.row.form
      subst hfv
      have HEX := Lib.hid hex
      have HB4 := Lib.hid hbl
      have z4 : w0.heap.size + 1 + 1 ≤ w4.heap.size := by have := hbl.size; simpa using this
      clear hex hbl
      go_wp2_with fail
      go_loopw [20, 21, 22, 23] (fun sv rv cv iv wr => ∃ k Lc : Nat, k ≤ n ∧ iv = .int .i64 k ∧ sv = .slice (some ⟨w0.heap.size, 0, none⟩) (Fs isS V V3 hd k).1.length (n + 1) ∧ rv = .slice (some ⟨w0.heap.size + 1, 0, none⟩) (Fs isS V V3 hd k).2.1.length n ∧ (∃ a c, cv = .slice a (Fs isS V V3 hd k).2.2.length c) ∧ Hid (Mid w0 wr w0.heap.size (w0.heap.size + 1) n Lc cv (Fs isS V V3 hd k))) (fun _ _ _ iv _ => n - (intOf iv).toNat)
      case atStart =>
        refine ⟨0, w4.heap.size, by omega, rfl, rfl, rfl, ⟨_, _, rfl⟩, ?_, ?_, HEX.out.ap _, ?_, Nat.le_refl _, by omega, by omega, by omega, Nat.le_refl _⟩
        · exact (((Cl.made w0 (n + 1) w0.heap.size 22 (.slice none 0 0) rfl rfl).alloc _).later HB4.out).imp fun i v hi hp s hs => by simp [Fs] at hs
        · exact ((Cl.made _ n (w0.heap.size + 1) 2 (.int .i64 0) rfl (by simp)).later HB4.out).imp fun i v hi hp s hs => by simp [Fs] at hs
        · exact (((Below.refl _ _).alloc (Nat.le_refl _) _).alloc (by simp) _).trans (HB4.out.mono (by simp; omega))
      case round =>
        obtain ⟨k, Lc, hk, rfl, rfl, rfl, ⟨ac, cc, rfl⟩, H⟩ := hrel
        have z5 := H.out.bl.size
        by_cases hlt : k < n
        · have l0 : (0 : Int) ≤ (k : Int) := by omega
          have l1 : (k : Int) < (n : Int) := by omega
          obtain ⟨xb, hxb, hxe⟩ := (HL.out.ib.later H.out.bl).cell hlt
          have hxe' := hxe hlt
          subst hxe'
          clear hxe
          have zI : W.heap.size < wr.heap.size := by have := HL.out.ib.lt; omega
          have zV : W.heap.size + 1 < wr.heap.size := by have := HL.out.vb.lt; omega
          have zT : W.heap.size + 1 + 1 < wr.heap.size := by have := HL.out.tb.lt; omega
          obtain ⟨sb, hsb⟩ : ∃ b, b = isS k := ⟨_, rfl⟩
          rw [← hsb] at hxb
          have HS := Lib.hid hsb.symm
          obtain ⟨vt, hvt, hte⟩ := HL.out.tb.cell hlt
          have hte' := hte hlt
          obtain ⟨at', ct, hft⟩ := hte'.row.form
          subst hft
          have HT := Lib.hid hvt
          have HTE := Lib.hid hte'
          have hls := H.out.ls
          have hs1 := H.out.s1
          have hlc := H.out.lc
          have hbd := Fs.bound isS V V3 hd k
          have hsm := sumL_le V V3 n k hlt
          have hsu := HSUM.out
          have HL1 := Lib.hid (show (Fs isS V V3 hd k).2.2.length + (V k).length ≤ 2097152 by omega)
          have HL2 := Lib.hid (show ((Fs isS V V3 hd k).2.2 ++ V k).length + (V3 k).length ≤ 2097152 by rw [List.length_append]; omega)
          have HL3 := Lib.hid (show (V3 k).length ≤ big20 by show _ ≤ 1048576; omega)
          have HLN := Lib.hid (Fs.len isS V V3 hd k)
          clear hsb hte hvt hte' hbd hsm hsu
          cases sb
          · obtain ⟨r, hr⟩ : ∃ r, r = (Fs isS V V3 hd k).2.1.length := ⟨_, rfl⟩
            have hr1 : (Fs isS V V3 hd k).1.length = r := by rw [HLN.out.1, hr]
            have hrk : r ≤ k := by rw [hr]; exact HLN.out.2
            rw [hr1, ← hr]
            have HR := Lib.hid hr
            have HR1 := Lib.hid hr1
            obtain ⟨j1, yi, yz0, yz1, yz2⟩ := info_three info_sl
            obtain ⟨olds, holen, holds⟩ := (H.out.sg.alloc (.cells #[.slice ac (Fs isS V V3 hd k).2.2.length cc] 22)).firsts r (by omega)
            have HOL := Lib.hid holds
            have HTN := Lib.hid (HTE.out.nilc (a := at'))
            clear hr hr1 holds
            go_wp2_with (at_builtin; refine hold_at ?_)
            refine ⟨?_⟩
            refine wpList_append_arg _ rfl _ _ 24 rfl 22 j1 (.slice none 0 0) 1 24 Tryd.underlying24 yi yz0 yz1 yz2 rfl (by decide) w0.heap.size 0 r (n + 1) olds rfl holen (fun j u hu => by rw [Nat.zero_add]; exact HOL.out j u hu) ⟨wr.heap.size, 0, none⟩ 1 1 [.slice ac (Fs isS V V3 hd k).2.2.length cc] rfl rfl ?sc1 ?sc2 ?sc3 ?sc4 ?sc5 ?sc6 ?sc7
            case sc1 =>
              intro j u hu
              rw [add_cell, (Bk.new wr 22 #[.slice ac (Fs isS V V3 hd k).2.2.length cc]).cell, ← Array.getElem?_toList]; exact hu
            case sc2 =>
              intro u hu
              simp only [List.mem_cons, List.not_mem_nil, or_false] at hu
              rw [hu]; rfl
            case sc3 =>
              intro hroom j hj
              have hj1 : j < 1 := hj
              obtain ⟨v, hv, -⟩ := (H.out.sg.alloc (.cells #[.slice ac (Fs isS V V3 hd k).2.2.length cc] 22)).cell (i := 0 + r * 1 + j) (by omega)
              exact ⟨by rw [hv]; rfl, (H.out.sg.alloc (.cells #[.slice ac (Fs isS V V3 hd k).2.2.length cc] 22)).frozen _⟩
            case sc4 => unfold maxLen; omega
            case sc5 => omega
            case sc7 => exact fun hgr => by omega
            case sc6 =>
              intro hroom
              obtain ⟨w5, hw5⟩ : ∃ w5, w5 = (wr.alloc (.cells #[.slice ac (Fs isS V V3 hd k).2.2.length cc] 22)).setCells w0.heap.size (0 + r * 1) [.slice ac (Fs isS V V3 hd k).2.2.length cc] := ⟨_, rfl⟩
              rw [← hw5]
              have e5 : w5 = (wr.alloc (.cells #[.slice ac (Fs isS V V3 hd k).2.2.length cc] 22)).setCell ⟨w0.heap.size, r, none⟩ (.slice ac (Fs isS V V3 hd k).2.2.length cc) := by rw [hw5, Nat.zero_add, Nat.mul_one]; rfl
              have hc5 : Cl w5 (w0.heap.size + 1) 2 n fun i v => ∀ x : Nat, (Fs isS V V3 hd k).2.1[i]? = some x → v = .int .i64 x := by rw [e5]; exact (H.out.rf.alloc _).move fun cs hb => hb.set (by omega)
              have HE5 := Lib.hid e5
              have HC5 := Lib.hid hc5
              obtain ⟨x1, xi, xz0, xz1, xz2⟩ := info_three info_i64
              obtain ⟨olds2, holen2, holds2⟩ := (hc5.alloc (.cells #[.int .i64 (k : Int)] 2)).firsts r (by omega)
              have HOL2 := Lib.hid holds2
              clear hw5 e5 hc5 holds2
              go_wp2_with (at_builtin; refine hold_at ?_)
              refine ⟨?_⟩
              refine wpList_append_arg _ rfl _ _ 28 rfl 2 x1 (.int .i64 0) 1 8 Tryd.underlying28 xi xz0 xz1 xz2 rfl (by decide) (w0.heap.size + 1) 0 r n olds2 rfl holen2 (fun j u hu => by rw [Nat.zero_add]; exact HOL2.out j u hu) ⟨w5.heap.size, 0, none⟩ 1 1 [.int .i64 (k : Int)] rfl rfl ?tc1 ?tc2 ?tc3 ?tc4 ?tc5 ?tc6 ?tc7
              case tc1 =>
                intro j u hu
                rw [add_cell, (Bk.new w5 2 #[.int .i64 (k : Int)]).cell, ← Array.getElem?_toList]; exact hu
              case tc2 =>
                intro u hu
                simp only [List.mem_cons, List.not_mem_nil, or_false] at hu
                rw [hu]; rfl
              case tc3 =>
                intro hroom j hj
                have hj1 : j < 1 := hj
                obtain ⟨v, hv, -⟩ := (HC5.out.alloc (.cells #[.int .i64 (k : Int)] 2)).cell (i := 0 + r * 1 + j) (by omega)
                exact ⟨by rw [hv]; rfl, (HC5.out.alloc (.cells #[.int .i64 (k : Int)] 2)).frozen _⟩
              case tc4 => unfold maxLen; omega
              case tc5 => omega
              case tc7 => exact fun hgr => by omega
              case tc6 =>
                intro hroom2
                obtain ⟨w7, hw7⟩ : ∃ w7, w7 = (w5.alloc (.cells #[.int .i64 (k : Int)] 2)).setCells (w0.heap.size + 1) (0 + r * 1) [.int .i64 (k : Int)] := ⟨_, rfl⟩
                rw [← hw7]
                have e7 : w7 = (((wr.alloc (.cells #[.slice ac (Fs isS V V3 hd k).2.2.length cc] 22)).setCell ⟨w0.heap.size, (Fs isS V V3 hd k).1.length, none⟩ (.slice ac (Fs isS V V3 hd k).2.2.length cc)).alloc (.cells #[.int .i64 (k : Int)] 2)).setCell ⟨w0.heap.size + 1, (Fs isS V V3 hd k).2.1.length, none⟩ (.int .i64 (k : Int)) := by rw [hw7, HE5.out, Nat.zero_add, Nat.mul_one, HR1.out, ← HR.out]; rfl
                have HS7 : Hid (w7.heap.size = wr.heap.size + 1 + 1) := Lib.hid (by rw [e7]; simp)
                have zS7 : w0.heap.size ≤ w7.heap.size := by have := HS7.out; omega
                have hb7 : Below w0.heap.size w0 w7 := by
                  rw [e7]
                  exact (((H.out.bl.alloc z5 _).setCell (Nat.le_refl w0.heap.size) _).alloc (by simp; omega) _).setCell (by show w0.heap.size ≤ w0.heap.size + 1; omega) _
                have htw := (hb7.cell (p := ⟨W.heap.size + 1 + 1, k, none⟩) HL.out.tb.lt).trans HT.out
                have zT7 : W.heap.size + 1 + 1 < w7.heap.size := by have := HS7.out; omega
                have HSL := Lib.hid ((HTE.out.row.below hb7).slb.more zS7)
                have HE7 := Lib.hid e7
                clear hw7 e7 hb7
                go_wp2_with fail
                refine (clone_row at' _ ct (V3 k) w7 HSL.out HL3.out HTN.out).mono ?_
                rintro e w8 ⟨v, rfl, hex, hbl⟩
                obtain ⟨a8, c8, hf8⟩ := hex.row.form
                subst hf8
                have HEX8 := Lib.hid hex
                have HBL8 := Lib.hid hbl
                clear hex hbl
                go_wp2_with fail
                go_roundw
                case rel =>
                  refine ⟨k + 1, w8.heap.size, by omega, by go_num, by rw [Fs.id HS.out, List.length_append, HR1.out]; rfl, by rw [Fs.id HS.out, List.length_append, ← HR.out]; rfl, ⟨a8, c8, by rw [Fs.id HS.out]⟩, ?_⟩
                  rw [Fs.id HS.out]
                  exact Mid.id H.out HLN.out.1 _ _ (by omega) (by rw [← HE7.out]; exact HBL8.out.mono (by rw [HS7.out]; exact Nat.le_refl _)) HEX8.out
                case measure => simp [intOf]; omega
          · obtain ⟨vv, hvv, hve⟩ := HL.out.vb.cell hlt
            have hve' := hve.1 hlt
            obtain ⟨av', cv', hfv⟩ := hve'.row.form
            subst hfv
            have HVE := Lib.hid hve'
            have hvw := (H.out.bl.cell (p := ⟨W.heap.size + 1, k, none⟩) HL.out.vb.lt).trans hvv
            clear hve hve' hvv
            go_wp2_with fail
            refine (append_all Lc ac _ cc (Fs isS V V3 hd k).2.2 av' _ cv' (V k) wr H.out.cu ((HVE.out.row.below H.out.bl).slb.more (by omega)) hlc HL1.out).mono ?_
            rintro e w5 ⟨v, rfl, hap, hbl⟩
            obtain ⟨us5, hu5⟩ : ∃ u, u = (Fs isS V V3 hd k).2.2 ++ V k := ⟨_, rfl⟩
            rw [← hu5] at hap
            have HU5 := Lib.hid hu5
            have HL5 := Lib.hid (show us5.length + (V3 k).length ≤ 2097152 by rw [hu5]; exact HL2.out)
            clear hu5
            obtain ⟨a5, c5, hf5⟩ := hap.form
            subst hf5
            have HAP := Lib.hid hap
            have HBL := Lib.hid hbl
            have z6 := hbl.size
            have zT5 : W.heap.size + 1 + 1 < w5.heap.size := by omega
            have hb5 := H.out.bl.trans (hbl.mono (show w0.heap.size ≤ Lc by omega))
            have htw := (hb5.cell (p := ⟨W.heap.size + 1 + 1, k, none⟩) HL.out.tb.lt).trans HT.out
            have HSL := Lib.hid ((HTE.out.row.below hb5).slb.more (show w0.heap.size ≤ Lc by omega))
            clear hap hbl hb5
            go_wp2_with fail
            refine (append_all Lc a5 _ c5 us5 at' _ ct (V3 k) w5 HAP.out HSL.out (by omega) HL5.out).mono ?_
            rintro e w6 ⟨v, rfl, hap, hbl⟩
            obtain ⟨us6, hu6⟩ : ∃ u, u = us5 ++ V3 k := ⟨_, rfl⟩
            rw [← hu6] at hap
            have HU6 := Lib.hid hu6
            clear hu6
            obtain ⟨a6, c6, hf6⟩ := hap.form
            subst hf6
            have HAP6 := Lib.hid hap
            have HBL6 := Lib.hid hbl
            clear hap hbl
            go_wp2_with fail
            go_roundw
            case rel =>
              refine ⟨k + 1, Lc, by omega, by go_num, by rw [Fs.str HS.out], by rw [Fs.str HS.out], ⟨a6, c6, by rw [Fs.str HS.out, HU6.out, HU5.out]⟩, ?_⟩
              rw [Fs.str HS.out, ← HU5.out, ← HU6.out]
              exact H.out.str (HBL.out.trans HBL6.out) HAP6.out
            case measure => simp [intOf]; omega
        · obtain rfl : k = n := by omega
          obtain ⟨n, rfl⟩ : ∃ n : Nat, n = k := ⟨_, rfl⟩
          have HLN := Lib.hid (Fs.len isS V V3 hd n)
          obtain ⟨r, hr⟩ : ∃ r, r = (Fs isS V V3 hd n).2.1.length := ⟨_, rfl⟩
          have hr1 : (Fs isS V V3 hd n).1.length = r := by rw [HLN.out.1, hr]
          have hrk : r ≤ n := by rw [hr]; exact HLN.out.2
          rw [hr1, ← hr]
          have HR := Lib.hid hr
          have HR1 := Lib.hid hr1
          obtain ⟨j1, yi, yz0, yz1, yz2⟩ := info_three info_sl
          obtain ⟨olds, holen, holds⟩ := (H.out.sg.alloc (.cells #[.slice ac (Fs isS V V3 hd n).2.2.length cc] 22)).firsts r (by omega)
          have HOL := Lib.hid holds
          clear hr hr1 holds hk hlt
          go_wp2_with (at_builtin; refine hold_at ?_)
          refine ⟨?_⟩
          refine wpList_append_arg _ rfl _ _ 24 rfl 22 j1 (.slice none 0 0) 1 24 Tryd.underlying24 yi yz0 yz1 yz2 rfl (by decide) w0.heap.size 0 r (n + 1) olds rfl holen (fun j u hu => by rw [Nat.zero_add]; exact HOL.out j u hu) ⟨wr.heap.size, 0, none⟩ 1 1 [.slice ac (Fs isS V V3 hd n).2.2.length cc] rfl rfl ?sc1 ?sc2 ?sc3 ?sc4 ?sc5 ?sc6 ?sc7
          case sc1 =>
            intro j u hu
            rw [add_cell, (Bk.new wr 22 #[.slice ac (Fs isS V V3 hd n).2.2.length cc]).cell, ← Array.getElem?_toList]; exact hu
          case sc2 =>
            intro u hu
            simp only [List.mem_cons, List.not_mem_nil, or_false] at hu
            rw [hu]; rfl
          case sc3 =>
            intro hroom j hj
            have hj1 : j < 1 := hj
            obtain ⟨v, hv, -⟩ := (H.out.sg.alloc (.cells #[.slice ac (Fs isS V V3 hd n).2.2.length cc] 22)).cell (i := 0 + r * 1 + j) (by omega)
            exact ⟨by rw [hv]; rfl, (H.out.sg.alloc (.cells #[.slice ac (Fs isS V V3 hd n).2.2.length cc] 22)).frozen _⟩
          case sc4 => unfold maxLen; omega
          case sc5 => omega
          case sc7 => exact fun hgr => by omega
          case sc6 =>
            intro hroom
            obtain ⟨w5, hw5⟩ : ∃ w5, w5 = (wr.alloc (.cells #[.slice ac (Fs isS V V3 hd n).2.2.length cc] 22)).setCells w0.heap.size (0 + r * 1) [.slice ac (Fs isS V V3 hd n).2.2.length cc] := ⟨_, rfl⟩
            rw [← hw5]
            have hfin : Fin w0 w5 w0.heap.size (w0.heap.size + 1) n (Fs isS V V3 hd n) := by
              have e5 : w5 = (wr.alloc (.cells #[.slice ac (Fs isS V V3 hd n).2.2.length cc] 22)).setCell ⟨w0.heap.size, (Fs isS V V3 hd n).1.length, none⟩ (.slice ac (Fs isS V V3 hd n).2.2.length cc) := by rw [hw5, Nat.zero_add, Nat.mul_one, HR1.out]; rfl
              rw [e5]; exact Mid.fin H.out (by omega) _
            have HF := Lib.hid hfin
            have zW5 : w0.heap.size ≤ w5.heap.size := hfin.bl.size
            have B5 := Lib.hid (HL.out.bl.trans (hfin.bl.mono z0))
            clear hw5 hfin holen yi yz0 yz1 yz2 HOL H z5 HEX HB4 z4 hroom
            go_wp2_with fail
            refine (clone_row a0 n0 c0 hd w5 ((H0.out.below B5.out).more (by omega)) (by show n0 ≤ 1048576; omega) HN.out).mono ?_
            rintro e w6 ⟨v, rfl, hex, hbl⟩
            obtain ⟨a6, c6, hf6⟩ := hex.row.form
            subst hf6
            have HEX := Lib.hid hex
            have B56 := Lib.hid hbl
            have B6 := Lib.hid (HF.out.bl.trans (hbl.mono zW5))
            have z6 := B6.out.size
            obtain ⟨fv, hfv⟩ := HL.out.vb.fn
            obtain ⟨ft, hft⟩ := HL.out.tb.fn
            have HFV := Lib.hid hfv
            have HFT := Lib.hid hft
            clear hex hbl hfv hft
            go_wp2_with fail
            refine (new_template w6 n W.heap.size (W.heap.size + 1) (W.heap.size + 1 + 1) (.slice a6 hd.length c6) hd isS fv ft V V3 tg hl g3 (fun i hi => ?_) (by have := HL.out.ib.lt; omega) (fun i hi => ⟨?_, ?_⟩) (by have := HL.out.vb.lt; omega) (fun i hi => ⟨?_, ?_⟩) (by have := HL.out.tb.lt; omega) HEX.out).mono ?_
            · obtain ⟨v, hv, he⟩ := HL.out.ib.cell hi
              rw [← he hi]; exact (B6.out.cell (p := ⟨W.heap.size, i, none⟩) HL.out.ib.lt).trans hv
            · exact (B6.out.cell (p := ⟨W.heap.size + 1, i, none⟩) HL.out.vb.lt).trans (HFV.out i hi).1
            · exact (((HFV.out i hi).2.1 hi).below B6.out).more z6
            · exact (B6.out.cell (p := ⟨W.heap.size + 1 + 1, i, none⟩) HL.out.tb.lt).trans (HFT.out i hi).1
            · exact (((HFT.out i hi).2 hi).below B6.out).more z6
            rintro e w7 ⟨tb, K, tag, rfl, htb, htag, l1, l2, l3, hpu, hb7⟩
            have HTB := Lib.hid htb
            have HPU := Lib.hid hpu
            have B7 := Lib.hid hb7
            have z7 := hb7.size
            clear htb hpu hb7
            rcases htag with ⟨rfl, rfl⟩ | ⟨rfl, g, rfl⟩
            rotate_left
            · go_wp2_with fail
              refine (inline_tagged w7 tb g lo _ HTB.out rfl).mono ?_
              rintro e w8 ⟨rfl, hb8⟩
              have B8 := Lib.hid hb8
              clear hb8
              go_wp2_with fail
              refine (as_template _ tb lo).mono ?_
              rintro e w9 ⟨rfl, hb9⟩
              have B9 := Lib.hid hb9
              clear hb9
              obtain ⟨j2, hj2⟩ := Option.isSome_iff_exists.1 info_et
              have hptr := fun w : World => run_eql_ptr_same (P := Tryd.prog) w ⟨tb, 0, none⟩ Tryd.underlying30 hj2
              go_wp2_with fail
              go_ret
              exact ⟨rfl, bseq (bseq (bseq (bseq B5.out B56.out) B7.out) (bseq B8.out ((Below.refl _ _).alloc (Nat.le_refl _) _))) B9.out⟩
            · go_wp2_with fail
              refine (inline w7 tb K n (.slice a6 hd.length c6) hd isS fv ft V V3 lo hl w6.heap.size g3 HSUM.out HTB.out HPU.out ((HEX.out.below B7.out).more z7) (fun i hi => ?_) (fun i hi => ?_)).mono ?_
              · exact ((((HFV.out i hi).2.1 hi).below B6.out).below (B7.out.mono z6)).more (by omega)
              · exact ((((HFT.out i hi).2 hi).below B6.out).below (B7.out.mono z6)).more (by omega)
              intro e w8 hinl
              obtain ⟨TT, gg, rfl⟩ := hinl.any
              have HI := Lib.hid hinl
              clear hinl
              have z8 := HI.out.1.size
              have B8 : Hid (Below w7.heap.size w7 (w8.alloc (.cells #[.iface TT (ptr gg), .int .i32 lo] 37))) := Lib.hid (HI.out.1.alloc z8 _)
              obtain ⟨f, hrw, hf1, hf2⟩ := HPU.out
              have HRW := Lib.hid hrw
              have HF2 := Lib.hid hf2
              clear hrw hf1 hf2
              go_wp2_with fail
              obtain ⟨w9, hw9⟩ : ∃ w9, w9 = w8.alloc (.cells #[.iface TT (ptr gg), .int .i32 lo] 37) := ⟨_, rfl⟩
              rw [← hw9]
              have E9 : Hid (Bk w9 w8.heap.size 37 #[.iface TT (ptr gg), .int .i32 lo]) := Lib.hid (by rw [hw9]; exact Bk.new _ _ _)
              have B89 : Hid (Below w8.heap.size w8 w9) := Lib.hid (by rw [hw9]; exact (Below.refl _ _).alloc (Nat.le_refl _) _)
              rw [← hw9] at B8
              have z9 := B8.out.size
              clear hw9
              refine (shape_of w9 tb K n n (.slice a6 hd.length c6) hl ft (fun i => if isS i then -1 else (i : Int)) f g3 (Nat.le_refl _) (HTB.out.later B8.out) (HRW.out.move fun cs hb => hb.later B8.out) (fun i hi => ⟨?_, (HF2.out i hi).2, ?_⟩) ⟨_, _, _, rfl⟩).mono ?_
              · exact ((HF2.out i hi).1.keep z9 fun g t cs _ hb => hb.later B8.out).ref (by omega)
              · obtain ⟨a, c, h⟩ := ((HFT.out i hi).2 hi).row.form; exact ⟨_, _, _, h⟩
              rintro e w10 ⟨SA, SB, rfl, hsa, hsb, m1, m2, hb10⟩
              have HSA := Lib.hid hsa
              have HSB := Lib.hid hsb
              have B10 := Lib.hid hb10
              have z10 := hb10.size
              clear hsa hsb hb10
              have HQ1 : Hid (∀ x, Calls Tryd.prog 12 #[.slice a6 hd.length c6, .slice a0 n0 c0] (w10.drewN x) fun e w' => e = .returned (.bool true) ∧ ∃ m, w' = (w10.drewN x).drewN m) := Lib.hid (by
                have q1 : Below w6.heap.size w6 w10 := (B7.out.trans (B8.out.mono z7)).trans (B10.out.mono (by omega))
                have q2 : Below W.heap.size W w10 := (B5.out.trans (B56.out.mono (by omega))).trans (q1.mono (by omega))
                exact eq_same a6 a0 _ c6 n0 c0 hd w10 ((HEX.out.row.below q1).slb.more (by omega)) ((H0.out.below q2).more (by omega)) (by have := HSUM.out; omega))
              go_wp2_with fail
              refine (HQ1.out 0).mono ?_
              rintro e w11 ⟨rfl, q11, rfl⟩
              go_wp2_with fail
              go_loopw [32] (fun i wr' => ∃ k : Nat, k ≤ n ∧ i = .int .i64 k ∧ Hid (Below w10.heap.size w10 wr')) (fun i _ => n - (intOf i).toNat)
              case atStart => exact ⟨0, by omega, rfl, below_drewN (Below.refl _ _) _⟩
              case round =>
                obtain ⟨k, hk, rfl, HB⟩ := hrel
                obtain ⟨w12, rfl⟩ : ∃ X : World, X = wr := ⟨_, rfl⟩
                have B6c := Lib.hid (bseq (bseq (bseq B7.out B8.out) B10.out) HB.out)
                have zc := B6c.out.size
                have zh := HB.out.size
                by_cases hlt : k < n
                · have l0 : (0 : Int) ≤ (k : Int) := by omega
                  have l1 : (k : Int) < (n : Int) := by omega
                  have hib := HL.out.ib.lt
                  obtain ⟨xb, hxb, hxe⟩ := HL.out.ib.cell hlt
                  obtain rfl := hxe hlt
                  have cI := ((B6.out.trans (B6c.out.mono z6)).cell (p := ⟨W.heap.size, k, none⟩) hib).trans hxb
                  have cA := (HB.out.cell (p := ⟨SA, k, none⟩) HSA.out.lt).trans (HSA.out.cell hlt)
                  have cB := (HB.out.cell (p := ⟨SB, k, none⟩) HSB.out.lt).trans (HSB.out.cell hlt)
                  have zSA := HSA.out.lt
                  have zSB := HSB.out.lt
                  have zA1 : SA < w12.heap.size := by omega
                  have zB1 : SB < w12.heap.size := by omega
                  have zI1 : W.heap.size < w12.heap.size := by omega
                  have hte := (HFT.out k hlt).2 hlt
                  obtain ⟨at', ct, hft'⟩ := hte.row.form
                  rw [hft'] at cA hte
                  obtain ⟨b3, o3, ha3, hb3, hc3, A3, d3, hv3, hs3, hn3⟩ := (H3.out.below (bseq (bseq B5.out B56.out) B6c.out)) k hlt
                  subst ha3
                  rw [hv3] at hc3
                  have zb3 : b3 < w12.heap.size := by omega
                  have hsm := sumL_le V V3 n k hlt
                  have hsu := HSUM.out
                  have KQ : Hid (∀ x, Calls Tryd.prog 12 #[.slice at' (V3 k).length ct, .slice A3 (V3 k).length d3] (w12.drewN x) fun e w' => e = .returned (.bool true) ∧ ∃ m, w' = (w12.drewN x).drewN m) := Lib.hid (eq_same at' A3 _ ct _ d3 (V3 k) w12 ((hte.row.below (B6.out.trans (B6c.out.mono z6))).slb.more (by omega)) (hs3.more (by omega)) (by omega))
                  obtain ⟨sb, hsb⟩ : ∃ b, b = isS k := ⟨_, rfl⟩
                  rw [← hsb] at cI cB
                  clear hxe hxb hte hft' hv3 hs3 hn3 hsm hsu hsb hib
                  cases sb
                  · go_wp2_with fail
                    go_quiet ((go_at_call 12; exact Calls.quiet_of (KQ.out _)))
                    go_wp2_with fail
                    go_roundw
                    case rel => exact ⟨k + 1, by omega, by go_num, below_drewN HB.out _⟩
                    case measure => simp [intOf]; omega
                  · go_wp2_with fail
                    go_quiet ((go_at_call 12; exact Calls.quiet_of (KQ.out _)))
                    go_wp2_with fail
                    go_roundw
                    case rel => exact ⟨k + 1, by omega, by go_num, below_drewN HB.out _⟩
                    case measure => simp [intOf]; omega
                · obtain rfl : k = n := by omega
                  obtain ⟨n, rfl⟩ : ∃ n : Nat, n = k := ⟨_, rfl⟩
                  clear hk hlt
                  have B5c := Lib.hid (bseq B56.out B6c.out)
                  have B9c := Lib.hid (bseq B10.out HB.out)
                  have B8c := Lib.hid (bseq B89.out B9c.out)
                  have e12 := E9.out.later B9c.out
                  have x0 : w12.cell? ⟨w8.heap.size, 0, none⟩ = some (.iface TT (ptr gg)) := e12.cell 0
                  have x1 : w12.cell? ⟨w8.heap.size, 1, none⟩ = some (.int .i32 lo) := e12.cell 1
                  have zE := e12.lt
                  have BW := Lib.hid (bseq B5.out B5c.out)
                  obtain ⟨s0, hs0, hs0l⟩ := segs_at isS V V3 hd n 0 (Nat.zero_le _)
                  have hsu := HSUM.out
                  obtain ⟨vs, hvs, hsr⟩ := HF.out.sg.cell (i := 0) (by omega)
                  have hsr0 := hsr s0 hs0
                  obtain ⟨ags, cgs, hgs⟩ := hsr0.form
                  subst hgs
                  have HVS := Lib.hid hvs
                  have HSR := Lib.hid hsr0
                  have HS0 := Lib.hid hs0
                  clear e12 hvs hsr hsr0 hs0
                  by_cases hr0 : r = 0
                  · obtain ⟨-, ⟨hre, g, v, hret, hbk, hrow⟩ | ⟨hne, _⟩⟩ := HI.out
                    rotate_left
                    · exact absurd (List.length_eq_zero_iff.1 (HR.out.symm.trans hr0)) hne
                    simp only [Ending.returned.injEq, Value.agg.injEq, Array.mk.injEq, List.cons.injEq, Value.iface.injEq, Value.pointer.injEq, Option.some.injEq, Addr.mk.injEq, and_true] at hret
                    obtain ⟨rfl, rfl⟩ := hret
                    obtain ⟨av, cv, hvf⟩ := hrow.form
                    subst hvf
                    have es0 : s0 = (Fs isS V V3 hd n).2.2 := by
                      have h1 := HS0.out
                      unfold segs at h1
                      have h2 : (Fs isS V V3 hd n).1 = [] := List.length_eq_zero_iff.1 (HR1.out.trans hr0)
                      rw [h2] at h1
                      simpa using h1.symm
                    rw [← es0] at hrow
                    rw [← es0] at hbk
                    have HBK := Lib.hid (hbk.later B8c.out)
                    have HROW := Lib.hid (hrow.below B8c.out)
                    subst hr0
                    clear hre hbk hrow es0
                    go_wp2_with fail
                    refine (as_string w12 gg lo av _ cv HBK.out).mono ?_
                    rintro e w13 ⟨rfl, hb13⟩
                    have B13 := Lib.hid hb13
                    have z13 := hb13.size
                    have zS := HF.out.sg.lt
                    have zS5 := B5c.out.size
                    have z8c := B8c.out.size
                    have zS13 : w0.heap.size < w13.heap.size := by omega
                    have cS := ((bseq B5c.out hb13).cell (p := ⟨w0.heap.size, 0, none⟩) HF.out.sg.lt).trans HVS.out
                    have KQ : Hid (∀ x, Calls Tryd.prog 12 #[.slice av s0.length cv, .slice ags s0.length cgs] (w13.drewN x) fun e w' => e = .returned (.bool true) ∧ ∃ m, w' = (w13.drewN x).drewN m) := Lib.hid (eq_same av ags _ cv _ cgs s0 w13 ((HROW.out.below (hb13.mono (by omega))).slb.more (by omega)) ((HSR.out.below (bseq B5c.out hb13)).slb.more (by omega)) (by omega))
                    clear hb13
                    go_wp2_with fail
                    refine (KQ.out 0).mono ?_
                    rintro e w14 ⟨rfl, q14, rfl⟩
                    go_wp2_with fail
                    go_ret
                    exact ⟨rfl, below_drewN (bseq BW.out B13.out) _⟩
                  · obtain ⟨-, ⟨hre, _⟩ | ⟨hne, g, P, hv, f2, hret, hbk, hrw2, hhd, hrf⟩⟩ := HI.out
                    · exact absurd (HR.out.trans (by rw [hre]; rfl)) hr0
                    simp only [Ending.returned.injEq, Value.agg.injEq, Array.mk.injEq, List.cons.injEq, Value.iface.injEq, Value.pointer.injEq, Option.some.injEq, Addr.mk.injEq, and_true] at hret
                    obtain ⟨rfl, rfl⟩ := hret
                    have hhd0 := hhd s0 HS0.out
                    obtain ⟨ahv, chv, hhf⟩ := hhd0.form
                    subst hhf
                    rw [← HR.out] at hbk
                    have HBK := Lib.hid hbk
                    have HRW2 := Lib.hid hrw2
                    have HHD := Lib.hid hhd0
                    have HRF := Lib.hid hrf
                    clear hne hbk hrw2 hhd hrf hhd0
                    go_wp2_with fail
                    refine (as_template w12 gg lo).mono ?_
                    rintro e w13 ⟨rfl, hb13⟩
                    have B13 := Lib.hid hb13
                    have B8d := Lib.hid (bseq B8c.out hb13)
                    have t13 := HBK.out.later B8d.out
                    have g5 : w13.cell? ⟨gg, 5, none⟩ = some (.int .i32 hl) := t13.cell 5
                    have zgg := t13.lt
                    clear hb13 t13
                    go_wp2_with fail
                    refine (shape_of w13 gg P r n (.slice ahv s0.length chv) hl (fun j => f2 j 3) (fun j => (((Fs isS V V3 hd n).2.1.getD j 0 : Nat) : Int)) f2 (by omega) hrk (HBK.out.later B8d.out) (HRW2.out.move fun cs hb => hb.later B8d.out) (fun i hi => ⟨?_, rfl, ?_⟩) ⟨_, _, _, rfl⟩).mono ?_
                    · have hx := getD_at (Fs isS V V3 hd n).2.1 i (by rw [← HR.out]; exact hi)
                      obtain ⟨⟨g, _, hd0, hbg⟩, _⟩ := HRF.out i _ hx
                      have hlt := (Fs.refs isS V V3 hd n _ (List.mem_of_getElem? hx)).1
                      exact .inl ⟨g, _, hd0, rfl, by omega, hbg.later B8d.out⟩
                    · have hx := getD_at (Fs isS V V3 hd n).2.1 i (by rw [← HR.out]; exact hi)
                      obtain ⟨s1, hs1, -⟩ := segs_at isS V V3 hd n (i + 1) (by rw [← HR.out]; omega)
                      obtain ⟨a, c, h⟩ := ((HRF.out i _ hx).2 s1 hs1).form
                      exact ⟨_, _, _, h⟩
                    rintro e w14 ⟨SC, SD, rfl, hsc, hsd, m3, m4, hb14⟩
                    have HSC := Lib.hid hsc
                    have HSD := Lib.hid hsd
                    have B8e := Lib.hid (bseq B8d.out hb14)
                    have B5e := Lib.hid (bseq (bseq B5c.out B13.out) hb14)
                    have BWe := Lib.hid (bseq BW.out (bseq B13.out hb14))
                    have z8e := B8e.out.size
                    have z5e := B5e.out.size
                    have zS := HF.out.sg.lt
                    have zR := HF.out.rf.lt
                    have zS14 : w0.heap.size < w14.heap.size := by omega
                    have cS := (B5e.out.cell (p := ⟨w0.heap.size, 0, none⟩) HF.out.sg.lt).trans HVS.out
                    have KQ : Hid (∀ x, Calls Tryd.prog 12 #[.slice ahv s0.length chv, .slice ags s0.length cgs] (w14.drewN x) fun e w' => e = .returned (.bool true) ∧ ∃ m, w' = (w14.drewN x).drewN m) := Lib.hid (eq_same ahv ags _ chv _ cgs s0 w14 ((HHD.out.below B8e.out).slb.more (by omega)) ((HSR.out.below B5e.out).slb.more (by omega)) (by omega))
                    clear hsc hsd hb14 g5 zgg
                    go_wp2_with fail
                    refine (KQ.out 0).mono ?_
                    rintro e w15 ⟨rfl, q15, rfl⟩
                    go_wp2_with fail
                    go_loopw [43] (fun i wr' => ∃ k : Nat, k ≤ r ∧ i = .int .i64 k ∧ Hid (Below w14.heap.size w14 wr')) (fun i _ => r - (intOf i).toNat)
                    case atStart => exact ⟨0, by omega, rfl, below_drewN (Below.refl _ _) _⟩
                    case round =>
                      obtain ⟨k, hk, rfl, HC⟩ := hrel
                      obtain ⟨w16, rfl⟩ : ∃ X : World, X = wr := ⟨_, rfl⟩
                      have zh2 := HC.out.size
                      by_cases hlt : k < r
                      · have l0 : (0 : Int) ≤ (k : Int) := by omega
                        have l1 : (k : Int) < (r : Int) := by omega
                        have B5f := Lib.hid (bseq B5e.out HC.out)
                        have B8f := Lib.hid (bseq B8e.out HC.out)
                        have hx := getD_at (Fs isS V V3 hd n).2.1 k (by rw [← HR.out]; exact hlt)
                        have cD := (HC.out.cell (p := ⟨SD, k, none⟩) HSD.out.lt).trans (HSD.out.cell hlt)
                        have cC := (HC.out.cell (p := ⟨SC, k, none⟩) HSC.out.lt).trans (HSC.out.cell hlt)
                        have zD := HSD.out.lt
                        have zC := HSC.out.lt
                        have zD1 : SD < w16.heap.size := by omega
                        have zC1 : SC < w16.heap.size := by omega
                        have zS1 : w0.heap.size < w16.heap.size := by omega
                        have zR1 : w0.heap.size + 1 < w16.heap.size := by omega
                        obtain ⟨vr, hvr, hvre⟩ := HF.out.rf.cell (i := k) (by omega)
                        have hvre' := hvre _ hx
                        subst hvre'
                        have cR := (B5f.out.cell (p := ⟨w0.heap.size + 1, k, none⟩) HF.out.rf.lt).trans hvr
                        obtain ⟨s1, hs1, hs1l⟩ := segs_at isS V V3 hd n (k + 1) (by rw [← HR.out]; omega)
                        have hrow := (HRF.out k _ hx).2 s1 hs1
                        obtain ⟨ax, cx, hxf⟩ := hrow.form
                        rw [hxf] at cC hrow
                        obtain ⟨vt, hvt, hvte⟩ := HF.out.sg.cell (i := k + 1) (by omega)
                        have hrow2 := hvte s1 hs1
                        obtain ⟨ay, cy, hyf⟩ := hrow2.form
                        subst hyf
                        have cT := (B5f.out.cell (p := ⟨w0.heap.size, k + 1, none⟩) HF.out.sg.lt).trans hvt
                        have KQ2 : Hid (∀ x, Calls Tryd.prog 12 #[.slice ax s1.length cx, .slice ay s1.length cy] (w16.drewN x) fun e w' => e = .returned (.bool true) ∧ ∃ m, w' = (w16.drewN x).drewN m) := Lib.hid (eq_same ax ay _ cx _ cy s1 w16 ((hrow.below B8f.out).slb.more (by omega)) ((hrow2.below B5f.out).slb.more (by omega)) (by omega))
                        obtain ⟨xv, hxv⟩ : ∃ xv : Int, xv = (((Fs isS V V3 hd n).2.1.getD k 0 : Nat) : Int) := ⟨_, rfl⟩
                        simp only [← hxv] at cD cR
                        have l2 : (k : Int) + 1 < ((r + 1 : Nat) : Int) := by omega
                        clear hx hvr hvre hs1 hs1l hrow hxf hvt hvte hrow2 hxv
                        go_wp2_with fail
                        go_quiet ((go_at_call 12; exact Calls.quiet_of (KQ2.out _)))
                        go_wp2_with fail
                        go_roundw
                        case rel => exact ⟨k + 1, by omega, by go_num, below_drewN HC.out _⟩
                        case measure => simp [intOf]; omega
                      · obtain rfl : k = r := by omega
                        go_wp2_with fail
                        go_ret
                        exact ⟨rfl, bseq BWe.out HC.out⟩

end Go.Proofs.YtlmjnlijoodbiaaDoor
