/-
  The serialiser on an array expression, walked; no statement of its own.
-/
import Derived.Test.YtokkndnicpgdkaaRows
import Derived.WalkKit
import Derived.ProofKit
import Derived.OpenShut
import Derived.Test.YtokkndnicpgdkaaSlW
import Derived.Test.YtokkndnicpgdkaaLbA
import Derived.Test.YtokkndnicpgdkaaLbR
import Derived.Test.YtokkndnicpgdkaaLbE
import Derived.Test.YtokkndnicpgdkaaCbW
import Derived.Test.YtokkndnicpgdkaaLbK
import Derived.Test.YtokkndnicpgdkaaLbB
import Derived.Test.YtokkndnicpgdkaaLbS
import Derived.WalkLawsBesides
import Derived.WalkSpells
import Derived.Below
import Derived.Lib.Hide
import Derived.Outline
import Derived.OwnWalk
import Derived.Laws.OwnMore
import Derived.Maps.AppendAt
import Derived.RegionTactic
import Derived.Deep.QuietTactic
import Derived.BigQuiet
import Derived.Deep.Cut
import Derived.LoopTactic
import Derived.Laws.StructEq
namespace Go.Proofs.Ytokkndnicpgdkaa
open Go.ChangeShapes Go.WideShapes Go.ChangeAt Go.RowKit

set_option linter.unusedVariables false

theorem guardL0 : Try.prog.eqGuardType Try.prog.depth 30 = false := by kernel_rfl
set_option maxRecDepth 100000 in
set_option maxHeartbeats 4000000 in
theorem ser_arr_ok0 : SerArrOk0 := by
  intro lo0 hi0 lo hi w q l n0 K sp sg its n15 hsp0 hlen hq hq1 hq2 hK1 hK2 hrow hitems hbound
  intro B va vc xs w1 hB0 hB hB1 ha hown hl hlen2
  subst hl
  have hqb := ha.bk hq hq1 hq2 (by decide)
  have zq := hqb.lt
  have zK : K < w1.heap.size := by omega
  have HQ := Lib.hid hqb
  have HROW := Lib.hid (hrow.move fun cs hb => ha.bk hb hK1 hK2 (by decide))
  have HA := Lib.hid ha
  have HIT := Lib.hid hitems
  have HLEN := Lib.hid hlen
  have HSP0 := Lib.hid hsp0
  have HBO := Lib.hid hbound
  have HOWN := Lib.hid hown
  have HL2 := Lib.hid hlen2
  obtain ⟨c0, hc0⟩ : ∃ c0, c0 = 2 + 4 * n0 := ⟨_, rfl⟩
  obtain ⟨c64, hc64⟩ : ∃ c64, c64 = c0 + 64 := ⟨_, rfl⟩
  obtain ⟨c1, hc1⟩ : ∃ c1, c1 = if sp then c64 else c0 := ⟨_, rfl⟩
  obtain ⟨c128, hc128⟩ : ∃ c128, c128 = c1 + 128 := ⟨_, rfl⟩
  obtain ⟨c2, hc2⟩ : ∃ c2, c2 = if sg then c128 else c1 := ⟨_, rfl⟩
  have o2 : bits .or .u32 2 ((n0 : Int) * 4) = (c0 : Int) := by
    have h := or_low 2 n0 2 (by omega) (by omega) (by omega)
    rw [show (n0 : Int) * 4 = ((2 ^ 2 * n0 : Nat) : Int) by omega, show (2 : Int) = ((2 : Nat) : Int) from rfl, h]; omega
  have o64 : bits .or .u32 (c0 : Int) 64 = (c64 : Int) := by
    have h := or_low c0 1 6 (by omega) (by omega) (by omega)
    rw [show (64 : Int) = ((2 ^ 6 * 1 : Nat) : Int) from rfl, h]; omega
  have c1b : c1 < 128 := by rw [hc1]; split <;> omega
  have o128 : bits .or .u32 (c1 : Int) 128 = (c128 : Int) := by
    have h := or_low c1 1 7 (by omega) (by omega) (by omega)
    rw [show (128 : Int) = ((2 ^ 7 * 1 : Nat) : Int) from rfl, h]; omega
  have EH := Lib.hid (show c2 = hdrA n0 sp sg by unfold hdrA; rw [hc2, hc128, hc1, hc64, hc0]; cases sp <;> cases sg <;> simp)
  have HC1 := Lib.hid hc1
  have HC2 := Lib.hid hc2
  have q0 : w1.cell? ⟨q, 0, none⟩ = some (.slice (some ⟨K, 0, none⟩) n0 n0) := hqb.cell 0
  have q3 : w1.cell? ⟨q, 3, none⟩ = some (.bool sg) := hqb.cell 3
  have hxl : xs.length ≤ 1000000 := by omega
  obtain ⟨i0, hi0, hz0, hz1, hz2⟩ := info_three info_w
  have HB0 := Lib.hid hB0
  clear hB0 ha hq hqb hrow hitems hlen hsp0 hbound hown hc0 hc64 hc1 hc128 hc2 hlen2
  go_enter Try.func9, Try.ntmps9
  go_upto_if 123 with fail
  obtain ⟨w2, hw2⟩ : ∃ w2, w2 = w1.alloc (.cells #[.iface 93 (ptr q), .int .i32 (xs.length : Int)] 42) := ⟨_, rfl⟩
  rw [← hw2]
  have L2 : Hid (Below B w1 w2) := by rw [hw2]; exact Lib.hid ((Below.refl _ _).alloc hB1 _)
  have L3 : Hid (Below w1.heap.size w1 w2) := by rw [hw2]; exact Lib.hid ((Below.refl _ _).alloc (Nat.le_refl _) _)
  have O2 : Hid (w2.ownsRow B 48 1 (.slice va xs.length vc) xs.length (words xs)) := by rw [hw2]; exact Lib.hid (HOWN.out.alloc _)
  have Q2 : Hid (Bk w2 q 95 #[.slice (some ⟨K, 0, none⟩) n0 n0, .int .i32 0, .int .i32 0, .bool sg, .bool false]) := HQ.out.later L3.out
  have R2 : Hid (RowX w2 K n0 sp its) := HROW.out.move fun cs hb => hb.later L3.out
  have q0 : w2.cell? ⟨q, 0, none⟩ = some (.slice (some ⟨K, 0, none⟩) n0 n0) := Q2.out.cell 0
  have q3 : w2.cell? ⟨q, 3, none⟩ = some (.bool sg) := Q2.out.cell 3
  have b2 : B ≤ w2.heap.size := by have := L2.out.size; omega
  have zq2 := Q2.out.lt
  clear hw2
  go_cut [13] from 35 (fun s wx => s = .int .u32 (c1 : Int) ∧ wx = w2)
  case first => as_aux_lemma =>
    by_cases h0 : n0 = 0
    · have hs0 : sp = false := by
        cases sp
        · rfl
        · have := HSP0.out rfl; omega
      have h00 : ¬ (0 : Int) < (n0 : Int) := by omega
      have HS0 := Lib.hid hs0
      clear h0 hs0
      go_wp2_with fail
      go_meet
      case rel => exact ⟨by rw [HC1.out, HS0.out]; rfl, rfl⟩
    · have h01 : (0 : Int) < (n0 : Int) := by omega
      obtain ⟨x, hx⟩ : ∃ x, its[n0 - 1]? = some x := ⟨_, List.getElem?_eq_getElem (by have := HLEN.out; omega)⟩
      obtain ⟨f, hrw, hf⟩ := R2.out
      have d0 := hrw.cell (i := n0 - 1) (j := 0) (by omega) (by omega)
      rw [(hf _ x hx).1, Nat.add_zero] at d0
      have hn1 : n0 - 1 + 1 = n0 := by omega
      rw [hn1] at d0
      have zK2 := hrw.lt
      have hT := (HIT.out _ x hx).2.2.2.1
      clear hrw hf hx h0 hn1
      obtain ⟨T, g, li, loi, hii, wsi, si⟩ := x
      have hTF : (T = 89) = False := by simp; exact hT
      have h1i : 1 ≤ n0 := by omega
      clear hT
      cases sp
      · simp only [Xi.d, Bool.false_eq_true, false_and, if_false] at d0
        go_wp2_with fail
        go_meet
        case rel => exact ⟨by rw [HC1.out]; rfl, rfl⟩
      · simp only [Xi.d, and_self, if_true] at d0
        go_wp2_with fail
        go_meet
        case rel => exact ⟨by rw [HC1.out]; rfl, rfl⟩
  as_aux_lemma =>
    obtain ⟨rfl, rfl⟩ := hcut
    obtain ⟨w2, rfl⟩ : ∃ x : World, x = wc := ⟨_, rfl⟩
    go_upto_if 143 with fail
    go_cut [13] from 35 (fun s wx => s = .int .u32 (c2 : Int) ∧ wx = w2)
    case first => as_aux_lemma =>
      cases sg
      · go_wp2_with fail
        go_meet
        case rel => exact ⟨by rw [HC2.out]; rfl, rfl⟩
      · go_wp2_with fail
        go_meet
        case rel => exact ⟨by rw [HC2.out]; rfl, rfl⟩
    as_aux_lemma =>
      obtain ⟨rfl, rfl⟩ := hcut
      obtain ⟨w2, rfl⟩ : ∃ x : World, x = wc := ⟨_, rfl⟩
      clear o2 o64 o128 q3
      have own := O2.out.alloc (.cells #[.int .u32 (c2 : Int)] 48)
      go_wp2_with (at_builtin; refine wpList_append_own_at _ rfl _ _ 22 rfl B 48 i0 (.int .u32 0) 1 4 Try.underlying22 hi0 hz0 hz1 hz2 rfl (by decide) _ _ _ rfl own ⟨w2.heap.size, 0, none⟩ 1 1 [.int .u32 (c2 : Int)] rfl rfl ?c1 ?c2 ?c3 ?c4 ?c5 ?_)
      case c1 => intro j u hj; cases j with | zero => (simp at hj; subst hj; simp [Addr.add]) | succ j => simp at hj
      case c2 => intro u hu; simp at hu; subst hu; rfl
      case c3 => unfold maxLen; omega
      case c4 => omega
      case c5 => simp; omega
      intro v3 w3 hown3 hgrow3 _ _
      have bl3 : Below B w1 w3 := (L2.out.alloc b2 _).grown hgrow3 (by simp; omega) (fun k hk => (own.lt k hk).1)
      obtain ⟨g3, k3, rfl⟩ := own_form hown3 (by omega)
      have OW3 := Lib.hid hown3
      have BL3 := Lib.hid bl3
      clear hown3 hgrow3 bl3 own q0
      go_wp2_with fail
      go_loopw [1, 16] (fun o v wr => ∃ (k : Nat) (a : Option Addr) (kc : Nat) (ys : List Nat), k ≤ n0 ∧ v = .int .i64 k ∧ o = .slice a ys.length kc ∧ Hid (ys = xs ++ c2 :: wsX (its.take k) ∧ wr.ownsRow B 48 1 (.slice a ys.length kc) ys.length (words ys) ∧ Below B w1 wr)) (fun _ v _ => n0 - (intOf v).toNat)
      case atStart => as_aux_lemma =>
        exact ⟨0, some ⟨g3, 0, none⟩, k3, xs ++ [c2], by omega, rfl, by rw [List.length_append]; rfl, by simp [wsX], by rw [words_app, List.length_append]; exact OW3.out, BL3.out⟩
      case round =>
        obtain ⟨k, a, kc, ys, hk, rfl, rfl, H⟩ := hrel
        have szr := H.out.2.2.size
        have bR : B ≤ wr.heap.size := by omega
        have bq := HQ.out.below H.out.2.2 (by omega)
        have q0 : wr.cell? ⟨q, 0, none⟩ = some (.slice (some ⟨K, 0, none⟩) n0 n0) := bq.cell 0
        have zqr := bq.lt
        by_cases hlt : k < n0
        · obtain ⟨x, hx⟩ : ∃ x, its[k]? = some x := ⟨_, List.getElem?_eq_getElem (by have := HLEN.out; omega)⟩
          obtain ⟨f, hrw, hf⟩ := HROW.out.move fun cs hb => hb.below H.out.2.2 (by omega)
          have d0 := hrw.cell (i := k) (j := 0) hlt (by omega)
          have d1 := hrw.cell (i := k) (j := 1) hlt (by omega)
          rw [(hf _ x hx).1, Nat.add_zero] at d0
          rw [(hf _ x hx).2] at d1
          have zKr := hrw.lt
          have IT := Lib.hid (HIT.out _ x hx)
          have hT := IT.out.2.2.2.1
          have HX := Lib.hid hx
          have hwl : (xs ++ c2 :: wsX (its.take k)).length = xs.length + 1 + (wsX (its.take k)).length := by simp; omega
          have hle := wsX_le its k x hx
          have hyl : ys.length = xs.length + 1 + (wsX (its.take k)).length := by rw [H.out.1]; exact hwl
          have YL := Lib.hid hyl
          have LE := Lib.hid hle
          have yb : ys.length ≤ 1000000 := by have := HBO.out; omega
          clear hrw hf hx hwl bq hyl hle
          obtain ⟨T, g, li, loi, hii, wsi, si⟩ := x
          have hTF : (T = 89) = False := by simp; exact hT
          clear hT
          by_cases hls : sp = true ∧ k + 1 = n0
          · as_aux_lemma =>
            rw [if_pos hls] at d0
            have sb := (HA.out.bk (IT.out.2.2.2.2.2 hls.1 hls.2).2.2 (IT.out.2.2.2.2.2 hls.1 hls.2).1 (IT.out.2.2.2.2.2 hls.1 hls.2).2.1 (by decide)).below H.out.2.2 (by have := (IT.out.2.2.2.2.2 hls.1 hls.2).2.1; omega)
            have s0 : wr.cell? ⟨si, 0, none⟩ = some (.iface T (ptr g)) := sb.cell 0
            have s1 : wr.cell? ⟨si, 1, none⟩ = some (.int .i32 (li : Int)) := sb.cell 1
            have zs := sb.lt
            have hkn := hls.2
            have KN := Lib.hid hkn
            have SB := Lib.hid sb
            clear hls hkn sb
            go_wp2_with fail
            obtain ⟨w4, hw4⟩ : ∃ w4, w4 = wr.alloc (.cells #[.iface 89 (ptr si), .int .i32 (li : Int)] 42) := ⟨_, rfl⟩
            rw [← hw4]
            have bx : Bk w4 wr.heap.size 42 #[.iface 89 (ptr si), .int .i32 (li : Int)] := by rw [hw4]; exact Bk.new _ _ _
            have sb4 : Bk w4 si 91 #[.iface T (ptr g), .int .i32 (li : Int)] := by rw [hw4]; exact SB.out.alloc _
            have OW4 : Hid (w4.ownsRow B 48 1 (.slice a ys.length kc) ys.length (words ys)) := by rw [hw4]; exact Lib.hid (H.out.2.1.alloc _)
            have BL4 : Hid (Below B w1 w4) := by rw [hw4]; exact Lib.hid (H.out.2.2.alloc bR _)
            have x0 : w4.cell? ⟨wr.heap.size, 0, none⟩ = some (.iface 89 (ptr si)) := bx.cell 0
            have x1 : w4.cell? ⟨wr.heap.size, 1, none⟩ = some (.int .i32 (li : Int)) := bx.cell 1
            have y0 : w4.cell? ⟨si, 0, none⟩ = some (.iface T (ptr g)) := sb4.cell 0
            have y1 : w4.cell? ⟨si, 1, none⟩ = some (.int .i32 (li : Int)) := sb4.cell 1
            have fx := bx.frozen
            have zx := bx.lt
            have zy := sb4.lt
            have BX := Lib.hid bx
            have ws : IntKind.i64.wrap ((n0 : Int) - 1) = (k : Int) := by rw [IntWalk.i64_in _ (by omega)]; have := KN.out; omega
            have eg := fun (x y : Operand) (w : World) => run_eqGuard_agg (P := Try.prog) w .neq 30 x y #[.int .i32 (li : Int)] #[.int .i32 (li : Int)] guardL0
            clear hw4 bx sb4 q0 d0 d1 s0 s1
            go_quiet (fail)
            clear ws eg
            have BW : Below B w1 (((w4.drewN nq).setCell ⟨wr.heap.size, 0, none⟩ (.iface T (ptr g))).setCell ⟨wr.heap.size, 1, none⟩ (.int .i32 (li : Int))) := ((below_drewN BL4.out nq).setCell bR _).setCell bR _
            have OD : (w4.drewN nq).ownsRow B 48 1 (.slice a ys.length kc) ys.length (words ys) := OW4.out
            have BD : Bk (w4.drewN nq) wr.heap.size 42 #[.iface 89 (ptr si), .int .i32 (li : Int)] := BX.out
            have o1 := own_set (o := 0) (u := .iface T (ptr g)) OD (own_ne OD BD (by decide))
            have OWW := Lib.hid (own_set (o := 1) (u := .int .i32 (li : Int)) o1 (own_ne o1 (BD.setSelf (o := 0) (v := .iface T (ptr g))) (by decide)))
            have BWW := Lib.hid BW
            clear BW OD BD o1
            go_wp2_with fail
            refine (IT.out.2.2.2.2.1.1 B a kc ys (((w4.drewN nq).setCell ⟨wr.heap.size, 0, none⟩ (.iface T (ptr g))).setCell ⟨wr.heap.size, 1, none⟩ (.int .i32 (li : Int))) ⟨HB0.out.1, HB0.out.2.trans (agreeT_below BWW.out HB0.out.1)⟩ ?_ ?_ ?_ ?_ ?_ ?_).mono ?_
            · have h9 : hii ≤ hi := IT.out.2.2.1
              show hii ≤ B; omega
            · have := BWW.out.size; omega
            · exact (HA.out.sub IT.out.2.1 IT.out.2.2.1).trans (agreeT_below BWW.out (by have h9 : hii ≤ hi := IT.out.2.2.1; show hii ≤ B; omega))
            · exact OWW.out
            · have h1 : li = xs.length + 1 + (wsX (its.take k)).length := IT.out.1
              rw [YL.out]; exact h1.symm
            · have h1 : (wsX (its.take k)).length + wsi.length ≤ (wsX its).length := LE.out
              have h2 := YL.out
              have h3 := HBO.out
              show ys.length + wsi.length ≤ 1000000
              omega
            rintro e w5 ⟨a5, k5, rfl, ho5, hb5⟩
            obtain ⟨zs2, hzs⟩ : ∃ zs2, zs2 = ys ++ wsi := ⟨_, rfl⟩
            have ho5' : w5.ownsRow B 48 1 (.slice a5 zs2.length k5) zs2.length (words zs2) := by rw [hzs]; exact ho5
            have O5 := Lib.hid ho5'
            have B5 := Lib.hid (BWW.out.trans hb5)
            rw [show (Value.slice a5 (ys ++ wsi).length k5) = .slice a5 zs2.length k5 by rw [hzs]]
            have HZS := Lib.hid hzs
            clear ho5 ho5' hb5 hzs
            go_wp2_with fail
            go_roundw
            case rel => exact ⟨k + 1, a5, k5, zs2, by omega, by go_num, rfl, by rw [HZS.out, wsX_take its k _ HX.out, H.out.1]; simp, O5.out, B5.out⟩
            case measure => simp [intOf]; omega
          · as_aux_lemma =>
            rw [if_neg hls] at d0
            simp only [Xi.d] at d0
            clear hls
            go_wp2_with fail
            refine (IT.out.2.2.2.2.1.1 B a kc ys (wr.alloc (.cells #[.iface T (ptr g), .int .i32 (li : Int)] 42)) ⟨HB0.out.1, (HB0.out.2.trans (agreeT_below H.out.2.2 HB0.out.1)).trans (agreeT_alloc _ _)⟩ ?_ ?_ ?_ ?_ ?_ ?_).mono ?_
            · have h9 : hii ≤ hi := IT.out.2.2.1
              show hii ≤ B; omega
            · simp; omega
            · exact ((HA.out.sub IT.out.2.1 IT.out.2.2.1).trans (agreeT_below H.out.2.2 (by have h9 : hii ≤ hi := IT.out.2.2.1; show hii ≤ B; omega))).trans (agreeT_alloc _ _)
            · exact H.out.2.1.alloc _
            · have h1 : li = xs.length + 1 + (wsX (its.take k)).length := IT.out.1
              rw [YL.out]; exact h1.symm
            · have h1 : (wsX (its.take k)).length + wsi.length ≤ (wsX its).length := LE.out
              have h2 := YL.out
              have h3 := HBO.out
              show ys.length + wsi.length ≤ 1000000
              omega
            rintro e w5 ⟨a5, k5, rfl, ho5, hb5⟩
            obtain ⟨zs, hzs⟩ : ∃ zs, zs = ys ++ wsi := ⟨_, rfl⟩
            have ho5' : w5.ownsRow B 48 1 (.slice a5 zs.length k5) zs.length (words zs) := by rw [hzs]; exact ho5
            have O5 := Lib.hid ho5'
            have B5 := Lib.hid ((H.out.2.2.alloc bR _).trans hb5)
            show _
            rw [show (Value.slice a5 (ys ++ wsi).length k5) = .slice a5 zs.length k5 by rw [hzs]]
            have HZS := Lib.hid hzs
            clear ho5 ho5' hb5 hzs
            go_wp2_with fail
            go_roundw
            case rel => exact ⟨k + 1, a5, k5, zs, by omega, by go_num, rfl, by rw [HZS.out, wsX_take its k _ HX.out, H.out.1]; simp, O5.out, B5.out⟩
            case measure => simp [intOf]; omega
        · as_aux_lemma =>
          have kn : k = n0 := by omega
          have e1 : xs ++ (hdrA n0 sp sg :: wsX its) = ys := by rw [H.out.1, ← EH.out, kn, ← HLEN.out, List.take_length]
          have E1 := Lib.hid e1
          clear e1 kn
          go_wp2_with fail
          go_ret2
          rw [E1.out]
          exact ⟨a, kc, rfl, H.out.2.1, H.out.2.2⟩
theorem ser_arr_ok : SerArrOk := fun lo0 hi0 lo hi w q l n0 K sp sg its a1 a2 a3 a4 a5 a6 a7 a8 a9 a10 a11 => ⟨ser_arr_ok0 lo0 hi0 lo hi w q l n0 K sp sg its a1 a2 a3 a4 a5 a6 a7 a8 a9 a10 a11,
  .arr a1 a3 a2 a4 a5 a6 a7 a8 a9 (fun i x hx => ⟨(a10 i x hx).2.1, (a10 i x hx).2.2.1⟩) (fun i x hx => (a10 i x hx).2.2.2.2.2) (fun i x hx => (a10 i x hx).2.2.2.1) (fun i x hx => (a10 i x hx).2.2.2.2.1.2)⟩

end Go.Proofs.Ytokkndnicpgdkaa
