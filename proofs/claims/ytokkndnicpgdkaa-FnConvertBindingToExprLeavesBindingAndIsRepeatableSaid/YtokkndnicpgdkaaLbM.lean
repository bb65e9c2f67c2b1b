/-
  The two serialisers of bindings on an array pattern: the first; no statement of its own.
-/
import Derived.Test.YtokkndnicpgdkaaRows
import Derived.WalkKit
import Derived.ProofKit
import Derived.OpenShut
import Derived.Test.YtokkndnicpgdkaaSlW
import Derived.Test.YtokkndnicpgdkaaCbW
import Derived.Test.YtokkndnicpgdkaaLbA
import Derived.Test.YtokkndnicpgdkaaLbR
import Derived.Test.YtokkndnicpgdkaaLbE
import Derived.Test.YtokkndnicpgdkaaLbB
import Derived.Test.YtokkndnicpgdkaaLbK
import Derived.Test.YtokkndnicpgdkaaLbJ
import Derived.WalkLawsBesides
import Derived.WalkSpells
import Derived.Below
import Derived.Lib.Hide
import Derived.Outline
import Derived.OwnWalk
import Derived.Laws.OwnMore
import Derived.Maps.AppendAt
import Derived.RegionTactic
import Derived.Deep.QuietTactic
import Derived.BigQuiet
import Derived.Deep.Cut
import Derived.Deep.AppendLies
import Derived.Deep.RegionLaw
import Derived.LoopTactic
namespace Go.Proofs.Ytokkndnicpgdkaa
open Go.ChangeShapes Go.WideShapes Go.ChangeAt Go.RowKit

set_option linter.unusedVariables false

set_option maxRecDepth 100000 in
set_option maxHeartbeats 4000000 in
theorem serb_arr (lo hi : Nat) (w : World) (q l n0 K : Nat) (sp sg : Bool) (its : List Kd) (n15 : n0 ≤ 15) (hlen : its.length = n0) (hq : Bk w q 63 #[.slice (some ⟨K, 0, none⟩) n0 n0, .int .i32 0, .bool sp, .bool sg]) (hq1 : lo ≤ q) (hq2 : q < hi) (hK1 : lo ≤ K) (hK2 : K < hi) (hrow : RowA w K n0 its) (hkids : KidsOk lo hi w (l + 1) its) (hbound : l + 1 + (wsOf its).length ≤ 1000000) :
    SerB lo hi w (.iface 61 (ptr q)) l (hdrA n0 sp sg :: wsOf its) := by
  intro B va vc xs w1 hB hB1 ha hown hlen2
  have hqb := ha.bk hq hq1 hq2 (by decide)
  have zq := hqb.lt
  have zK : K < w1.heap.size := by omega
  have HQ := Lib.hid hqb
  have HROW := Lib.hid (hrow.move fun cs hb => ha.bk hb hK1 hK2 (by decide))
  have HA := Lib.hid ha
  have HIT := Lib.hid hkids
  have HLEN := Lib.hid hlen
  have HOWN := Lib.hid hown
  have HL2 := Lib.hid (show xs.length + 1 + (wsOf its).length ≤ 1000000 by simp only [List.length_cons] at hlen2; omega)
  obtain ⟨c0, hc0⟩ : ∃ c0, c0 = 2 + 4 * n0 := ⟨_, rfl⟩
  obtain ⟨c64, hc64⟩ : ∃ c64, c64 = c0 + 64 := ⟨_, rfl⟩
  obtain ⟨c1, hc1⟩ : ∃ c1, c1 = if sp then c64 else c0 := ⟨_, rfl⟩
  obtain ⟨c128, hc128⟩ : ∃ c128, c128 = c1 + 128 := ⟨_, rfl⟩
  obtain ⟨c2, hc2⟩ : ∃ c2, c2 = if sg then c128 else c1 := ⟨_, rfl⟩
  have o2 : bits .or .u32 2 ((n0 : Int) * 4) = (c0 : Int) := by
    have h := or_low 2 n0 2 (by omega) (by omega) (by omega)
    rw [show (n0 : Int) * 4 = ((2 ^ 2 * n0 : Nat) : Int) by omega, show (2 : Int) = ((2 : Nat) : Int) from rfl, h]; omega
  have o64 : bits .or .u32 (c0 : Int) 64 = (c64 : Int) := by
    have h := or_low c0 1 6 (by omega) (by omega) (by omega)
    rw [show (64 : Int) = ((2 ^ 6 * 1 : Nat) : Int) from rfl, h]; omega
  have c1b : c1 < 128 := by rw [hc1]; split <;> omega
  have o128 : bits .or .u32 (c1 : Int) 128 = (c128 : Int) := by
    have h := or_low c1 1 7 (by omega) (by omega) (by omega)
    rw [show (128 : Int) = ((2 ^ 7 * 1 : Nat) : Int) from rfl, h]; omega
  have EH := Lib.hid (show c2 = hdrA n0 sp sg by unfold hdrA; rw [hc2, hc128, hc1, hc64, hc0]; cases sp <;> cases sg <;> simp)
  have HC1 := Lib.hid hc1
  have HC2 := Lib.hid hc2
  have hxl : xs.length ≤ 1000000 := by have := HL2.out; omega
  obtain ⟨i0, hi0, hz0, hz1, hz2⟩ := info_three info_w
  have q0 : w1.cell? ⟨q, 0, none⟩ = some (.slice (some ⟨K, 0, none⟩) n0 n0) := hqb.cell 0
  have p2 : w1.cell? ⟨q, 2, none⟩ = some (.bool sp) := hqb.cell 2
  clear ha hq hqb hrow hkids hlen hbound hown hc0 hc64 hc1 hc128 hc2 hlen2
  go_enter Try.func6, Try.ntmps6
  go_upto_if 92 with fail
  obtain ⟨w2, hw2⟩ : ∃ w2, w2 = w1.alloc (.cells #[.iface 61 (ptr q), .int .i32 (l : Int)] 32) := ⟨_, rfl⟩
  rw [← hw2]
  have L2 : Hid (Below B w1 w2) := by rw [hw2]; exact Lib.hid ((Below.refl _ _).alloc hB1 _)
  have L3 : Hid (Below w1.heap.size w1 w2) := by rw [hw2]; exact Lib.hid ((Below.refl _ _).alloc (Nat.le_refl _) _)
  have O2 : Hid (w2.ownsRow B 48 1 (.slice va xs.length vc) xs.length (words xs)) := by rw [hw2]; exact Lib.hid (HOWN.out.alloc _)
  have Q2 : Hid (Bk w2 q 63 #[.slice (some ⟨K, 0, none⟩) n0 n0, .int .i32 0, .bool sp, .bool sg]) := HQ.out.later L3.out
  have q2 : w2.cell? ⟨q, 2, none⟩ = some (.bool sp) := Q2.out.cell 2
  have q3 : w2.cell? ⟨q, 3, none⟩ = some (.bool sg) := Q2.out.cell 3
  have b2 : B ≤ w2.heap.size := by have := L2.out.size; omega
  have zq2 := Q2.out.lt
  clear hw2 q0 p2
  go_cut [13] from 28 (fun s wx => s = .int .u32 (c1 : Int) ∧ wx = w2)
  case first => as_aux_lemma =>
    cases sp
    · go_wp2_with fail
      go_meet
      case rel => exact ⟨by rw [HC1.out]; rfl, rfl⟩
    · go_wp2_with fail
      go_meet
      case rel => exact ⟨by rw [HC1.out]; rfl, rfl⟩
  as_aux_lemma =>
    obtain ⟨rfl, rfl⟩ := hcut
    obtain ⟨w2, rfl⟩ : ∃ x : World, x = wc := ⟨_, rfl⟩
    go_upto_if 98 with fail
    go_cut [13] from 28 (fun s wx => s = .int .u32 (c2 : Int) ∧ wx = w2)
    case first => as_aux_lemma =>
      cases sg
      · go_wp2_with fail
        go_meet
        case rel => exact ⟨by rw [HC2.out]; rfl, rfl⟩
      · go_wp2_with fail
        go_meet
        case rel => exact ⟨by rw [HC2.out]; rfl, rfl⟩
    as_aux_lemma =>
      obtain ⟨rfl, rfl⟩ := hcut
      obtain ⟨w2, rfl⟩ : ∃ x : World, x = wc := ⟨_, rfl⟩
      clear o2 o64 o128 q3 q2
      have own := O2.out.alloc (.cells #[.int .u32 (c2 : Int)] 48)
      go_wp2_with (at_builtin; refine wpList_append_own_at _ rfl _ _ 22 rfl B 48 i0 (.int .u32 0) 1 4 Try.underlying22 hi0 hz0 hz1 hz2 rfl (by decide) _ _ _ rfl own ⟨w2.heap.size, 0, none⟩ 1 1 [.int .u32 (c2 : Int)] rfl rfl ?c1 ?c2 ?c3 ?c4 ?c5 ?_)
      case c1 => intro j u hj; cases j with | zero => (simp at hj; subst hj; simp [Addr.add]) | succ j => simp at hj
      case c2 => intro u hu; simp at hu; subst hu; rfl
      case c3 => unfold maxLen; omega
      case c4 => omega
      case c5 => simp; omega
      intro v3 w3 hown3 hgrow3 _ _
      have bl3 : Below B w1 w3 := (L2.out.alloc b2 _).grown hgrow3 (by simp; omega) (fun k hk => (own.lt k hk).1)
      obtain ⟨g3, k3, rfl⟩ := own_form hown3 (by omega)
      have OW3 := Lib.hid hown3
      have BL3 := Lib.hid bl3
      clear hown3 hgrow3 bl3 own
      go_wp2_with fail
      go_loopw [1, 14] (fun o v wr => ∃ (k : Nat) (a : Option Addr) (kc : Nat) (ys : List Nat), k ≤ n0 ∧ v = .int .i64 k ∧ o = .slice a ys.length kc ∧ Hid (ys = xs ++ c2 :: wsOf (its.take k) ∧ wr.ownsRow B 48 1 (.slice a ys.length kc) ys.length (words ys) ∧ Below B w1 wr)) (fun _ v _ => n0 - (intOf v).toNat)
      case atStart => as_aux_lemma =>
        exact ⟨0, some ⟨g3, 0, none⟩, k3, xs ++ [c2], by omega, rfl, by rw [List.length_append]; rfl, by simp [wsOf], by rw [words_app, List.length_append]; exact OW3.out, BL3.out⟩
      case round =>
        obtain ⟨k, a, kc, ys, hk, rfl, rfl, H⟩ := hrel
        have szr := H.out.2.2.size
        have bR : B ≤ wr.heap.size := by omega
        by_cases hlt : k < n0
        · obtain ⟨x, hx⟩ : ∃ x, its[k]? = some x := ⟨_, List.getElem?_eq_getElem (by have := HLEN.out; omega)⟩
          have bq := HQ.out.below H.out.2.2 (by omega)
          have q0 : wr.cell? ⟨q, 0, none⟩ = some (.slice (some ⟨K, 0, none⟩) n0 n0) := bq.cell 0
          have zqr := bq.lt
          obtain ⟨f, hrw, hf, hz⟩ := HROW.out.move fun cs hb => hb.below H.out.2.2 (by omega)
          have d0 := hrw.cell (i := k) (j := 0) hlt (by omega)
          have d1 := hrw.cell (i := k) (j := 1) hlt (by omega)
          have d2 := hrw.cell (i := k) (j := 2) hlt (by omega)
          rw [(hf _ x hx).1, Nat.add_zero] at d0
          rw [(hf _ x hx).2] at d1
          rw [(hz k hlt).1] at d2
          have zKr := hrw.lt
          have IT := Lib.hid (HIT.out _ x hx)
          have HX := Lib.hid hx
          have hyl : ys.length = xs.length + 1 + (wsOf (its.take k)).length := by rw [H.out.1]; simp; omega
          have YL := Lib.hid hyl
          have LE := Lib.hid (ws_le its k x hx)
          have yb : ys.length ≤ 1000000 := by have := HL2.out; have := LE.out; omega
          clear hrw hf hz hx bq hyl
          obtain ⟨T, g, li, loi, hii, wsi⟩ := x
          have h9 : hii ≤ hi := IT.out.2.2.1
          simp only [Kd.d] at d0
          go_wp2_with fail
          refine (IT.out.2.2.2.2.1 B a kc ys wr (by show hii ≤ B; omega) bR ((HA.out.sub IT.out.2.1 IT.out.2.2.1).trans (agreeT_below H.out.2.2 (by show hii ≤ B; omega))) H.out.2.1 (by have h1 : (wsOf (its.take k)).length + wsi.length ≤ (wsOf its).length := LE.out; have := YL.out; have := HL2.out; show ys.length + wsi.length ≤ 1000000; omega)).mono ?_
          rintro e w5 ⟨a5, k5, rfl, ho5, hb5⟩
          obtain ⟨zs2, hzs⟩ : ∃ zs2, zs2 = ys ++ wsi := ⟨_, rfl⟩
          have ho5' : w5.ownsRow B 48 1 (.slice a5 zs2.length k5) zs2.length (words zs2) := by rw [hzs]; exact ho5
          have O5 := Lib.hid ho5'
          have B5 := Lib.hid (H.out.2.2.trans hb5)
          show _
          rw [show (Value.slice a5 (ys ++ wsi).length k5) = .slice a5 zs2.length k5 by rw [hzs]]
          have HZS := Lib.hid hzs
          clear ho5 ho5' hb5 hzs
          go_wp2_with fail
          go_roundw
          case rel => exact ⟨k + 1, a5, k5, zs2, by omega, by go_num, rfl, by rw [HZS.out, ws_take its k _ HX.out, H.out.1]; simp, O5.out, B5.out⟩
          case measure => simp [intOf]; omega
        · as_aux_lemma =>
          have kn : k = n0 := by omega
          have e1 : xs ++ (hdrA n0 sp sg :: wsOf its) = ys := by rw [H.out.1, ← EH.out, kn, ← HLEN.out, List.take_length]
          have E1 := Lib.hid e1
          clear e1 kn
          go_wp2_with fail
          go_ret2
          rw [E1.out]
          exact ⟨a, kc, rfl, H.out.2.1, H.out.2.2⟩

end Go.Proofs.Ytokkndnicpgdkaa
