/-
  The conversion of an array pattern; no statement of its own.
-/
import Derived.Test.YtokkndnicpgdkaaRows
import Derived.WalkKit
import Derived.ProofKit
import Derived.OpenShut
import Derived.Test.YtokkndnicpgdkaaSlW
import Derived.Test.YtokkndnicpgdkaaLbA
import Derived.Test.YtokkndnicpgdkaaLbR
import Derived.Test.YtokkndnicpgdkaaLbE
import Derived.Test.YtokkndnicpgdkaaCbW
import Derived.Test.YtokkndnicpgdkaaLbK
import Derived.Test.YtokkndnicpgdkaaLbB
import Derived.Test.YtokkndnicpgdkaaLbS
import Derived.WalkLawsBesides
import Derived.WalkSpells
import Derived.Below
import Derived.Lib.Hide
import Derived.Outline
import Derived.OwnWalk
import Derived.Laws.OwnMore
import Derived.Laws.MakeOwn
import Derived.RegionTactic
import Derived.Deep.QuietTactic
import Derived.BigQuiet
import Derived.Deep.Cut
import Derived.Deep.RegionHeld3
import Derived.LoopTactic
namespace Go.Proofs.Ytokkndnicpgdkaa
open Go.ChangeShapes Go.WideShapes Go.ChangeAt Go.RowKit

set_option linter.unusedVariables false

theorem info_x : (Try.prog.info? 42).map (fun i => (i.zero, i.size, i.bytes)) = some (some (.agg #[.nilIface, .int .i32 0]), 2, 24) := by kernel_rfl
set_option maxRecDepth 100000 in
set_option maxHeartbeats 4000000 in
theorem arr_ok0 (sa : SerArrOk) : ArrOk0 := by
  intro lo hi w q l n0 K sp sg its n15 hsp0 hlen hq hq1 hq2 hK1 hK2 hrow hkids hbound w1 ha hw
  have hqb := ha.bk hq hq1 hq2 (by decide)
  have q0 : w1.cell? ⟨q, 0, none⟩ = some (.slice (some ⟨K, 0, none⟩) n0 n0) := hqb.cell 0
  have q2 : w1.cell? ⟨q, 2, none⟩ = some (.bool sp) := hqb.cell 2
  have q3 : w1.cell? ⟨q, 3, none⟩ = some (.bool sg) := hqb.cell 3
  have zq := hqb.lt
  have zq1 : q < w1.heap.size + 1 := by omega
  have zq2 : q < w1.heap.size + 1 + 1 := by omega
  have zq3 : q < w1.heap.size + 1 + 1 + 1 := by omega
  have zK : K < w1.heap.size := by omega
  have HQ := Lib.hid hqb
  have HROW := Lib.hid (hrow.move fun cs hb => ha.bk hb hK1 hK2 (by decide))
  have HA := Lib.hid ha
  have HKI := Lib.hid hkids
  have HLEN := Lib.hid hlen
  have HSP0 := Lib.hid hsp0
  have HBO := Lib.hid hbound
  obtain ⟨i0, gi, gz0, gz1, gz2⟩ := info_three info_x
  have hmk := fun w : World => run_make (P := Try.prog) w 88 42 i0 (.agg #[.nilIface, .int .i32 0]) Try.underlying88 gi gz0 .i64 .i64 n0 n0 (by omega) (by omega) (by rw [gz2]; omega) (by omega)
  simp only [gz1, Int.toNat_natCast] at hmk
  clear ha hq hqb hrow hkids hlen hsp0 hbound gi gz0 gz1 gz2
  go_enter Try.func8, Try.ntmps8
  go_wp2_with fail
  clear hmk
  go_loopw [69] (fun v wr => ∃ (k : Nat) (xs : List Xi), k ≤ n0 ∧ v = .int .i64 k ∧ Hid (Ca lo hi w1 (w1.heap.size + 1 + 1 + 1) n0 (l + 1) l sp its k xs wr)) (fun v _ => n0 - (intOf v).toNat)
  case atStart => as_aux_lemma =>
    refine ⟨0, [], by omega, rfl, ?_, fun i it h => by simp at h, rfl, rfl, ?_, ?_, ?_⟩
    · obtain ⟨arr, h1, h2, h3⟩ := Rw.made (((w1.alloc (.cells #[.iface 61 (ptr q), .int .i32 (l : Int)] 32)).alloc (.cells #[.nilIface, .int .i32 0] 42)).alloc (.cells #[.int .i32 (l : Int)] 30)) 42 n0 2 #[.nilIface, .int .i32 0] rfl (by omega)
      rw [show (((w1.alloc (.cells #[.iface 61 (ptr q), .int .i32 (l : Int)] 32)).alloc (.cells #[.nilIface, .int .i32 0] 42)).alloc (.cells #[.int .i32 (l : Int)] 30)).heap.size = w1.heap.size + 1 + 1 + 1 by simp] at h1
      exact ⟨_, ⟨arr, h1, h2, h3⟩, fun i x h => by simp at h⟩
    · repeat (with_reducible first | exact Below.refl _ _ | refine Below.alloc ?_ (by first | (simp; done) | (simp <;> omega) | omega) _)
    · repeat (with_reducible first | exact Bk.new' _ _ _ _ (by simp) | refine Bk.alloc ?_ _)
    · repeat (with_reducible first | exact Bk.new' _ _ _ _ (by simp) | refine Bk.alloc ?_ _)
  case round =>
    obtain ⟨k, xs, hk, rfl, H⟩ := hrel
    by_cases hlt : k < n0
    · as_aux_lemma =>
      obtain ⟨it, hit⟩ : ∃ it, its[k]? = some it := ⟨_, List.getElem?_eq_getElem (by have := HLEN.out; omega)⟩
      obtain ⟨f, hrw, hf1, hf2⟩ := HROW.out.move fun cs hb => hb.later H.out.bl
      obtain ⟨a1, a2⟩ := hf1 k it hit
      obtain ⟨a3, a4, a5⟩ := hf2 k hlt
      have c0 := hrw.cell (i := k) (j := 0) hlt (by omega)
      have c1 := hrw.cell (i := k) (j := 1) hlt (by omega)
      have c2 := hrw.cell (i := k) (j := 2) hlt (by omega)
      have c3 := hrw.cell (i := k) (j := 3) hlt (by omega)
      have c4 := hrw.cell (i := k) (j := 4) hlt (by omega)
      rw [a1, Nat.add_zero] at c0
      rw [a2] at c1
      rw [a3] at c2
      rw [a4] at c3
      rw [a5] at c4
      have IT := Lib.hid (HKI.out k it hit)
      have HIT := Lib.hid hit
      obtain ⟨T, g, li, loi, hii, wsi⟩ := it
      simp only [Kd.d] at c0
      have zKr := hrw.lt
      have szr := H.out.bl.size
      have bq := HQ.out.later H.out.bl
      have q0 : wr.cell? ⟨q, 0, none⟩ = some (.slice (some ⟨K, 0, none⟩) n0 n0) := bq.cell 0
      have q2 : wr.cell? ⟨q, 2, none⟩ = some (.bool sp) := bq.cell 2
      have zqr := bq.lt
      clear hrw hf1 hf2 a1 a2 a3 a4 a5 hit bq
      go_wp2_with fail
      refine (IT.out.2.2.2.1 (wr.alloc (.cells #[.iface T (ptr g), .int .i32 (li : Int), .nilIface, .int .i32 0, .int .i32 0] 60)) ?_ ?_).mono ?_
      · exact ((HA.out.sub IT.out.2.1 IT.out.2.2.1).trans (agreeT_below H.out.bl (by have := IT.out.2.2.1; show hii ≤ _; have h9 : hii ≤ hi := this; omega))).trans (agreeT_alloc _ _)
      · have h9 : hii ≤ hi := IT.out.2.2.1
        show hii ≤ _
        simp; omega
      rintro e w5 ⟨T', g', rfl, hb5, hT', hser⟩
      simp at hb5
      have hz5 := hb5.size
      simp at hz5
      have M5 := Lib.hid (show ∀ g t cs, Bk wr g t cs → Bk w5 g t cs from fun g t cs h => (h.alloc _).below hb5 (by have := h.lt; omega))
      obtain ⟨f2, hrw2, -⟩ := H.out.row.move fun cs hb => M5.out _ _ _ hb
      have d0 : w5.cell? ⟨w1.heap.size + 1 + 1 + 1, k * 2, none⟩ = some (f2 k 0) := hrw2.cell (i := k) (j := 0) hlt (by omega)
      have d1 : w5.cell? ⟨w1.heap.size + 1 + 1 + 1, k * 2 + 1, none⟩ = some (f2 k 1) := hrw2.cell (i := k) (j := 1) hlt (by omega)
      have fK := hrw2.frozen
      have zK2 := hrw2.lt
      have bq5 := M5.out _ _ _ (HQ.out.later H.out.bl)
      have p0 : w5.cell? ⟨q, 0, none⟩ = some (.slice (some ⟨K, 0, none⟩) n0 n0) := bq5.cell 0
      have p2 : w5.cell? ⟨q, 2, none⟩ = some (.bool sp) := bq5.cell 2
      have bx : Bk w5 wr.heap.size 60 #[.iface T (ptr g), .int .i32 (li : Int), .nilIface, .int .i32 0, .int .i32 0] := (Bk.new _ _ _).below hb5 (by omega)
      have x2 : w5.cell? ⟨wr.heap.size, 2, none⟩ = some .nilIface := bx.cell 2
      have zq5 := bq5.lt
      have hser' := hser.out.wide IT.out.2.1 IT.out.2.2.1
      rw [show (wr.alloc (.cells #[.iface T (ptr g), .int .i32 (li : Int), .nilIface, .int .i32 0, .int .i32 0] 60)).heap.size = wr.heap.size + 1 by simp] at hser'
      have HSER := Lib.hid hser'
      clear hser'
      have HT' := Lib.hid hT'
      have zK2r : w1.heap.size + 1 + 1 + 1 < wr.heap.size := by obtain ⟨cs, h⟩ := H.out.row.bk; exact h.lt
      have B5 := Lib.hid (H.out.bl.trans (((Below.refl w1.heap.size wr).alloc szr _).trans (hb5.mono (by omega))))
      have AW := Lib.hid (show ∀ lo', AgreeT lo' wr.heap.size wr w5 from fun lo' => (agreeT_alloc wr (.cells #[.iface T (ptr g), .int .i32 (li : Int), .nilIface, .int .i32 0, .int .i32 0] 60)).trans (agreeT_below hb5 (by omega)))
      have zx5 : wr.heap.size < w5.heap.size := by omega
      have zx6 : wr.heap.size < w5.heap.size + 1 := by omega
      have zq6 : q < w5.heap.size + 1 := by omega
      have zk6 : w1.heap.size + 1 + 1 + 1 < w5.heap.size + 1 := by omega
      clear hb5 hser hT' hrw2 bq5 bx
      cases sp
      · go_wp2_with fail
        go_roundw
        case rel =>
          refine ⟨k + 1, xs ++ [⟨T', g', li, wr.heap.size + 1, w5.heap.size, wsi, 0⟩], by omega, by go_num, ((H.out.row.move fun cs hb => M5.out _ _ _ hb).set H.out.len hlt ⟨T', g', li, wr.heap.size + 1, w5.heap.size, wsi, 0⟩ (.iface T' (ptr g')) (by rw [if_neg (fun h => Bool.noConfusion h.1)]; rfl)).move (fun cs hb => ?_), ItemsOk.snoc (H.out.items.move (by simp <;> omega) ?_ ?_) ?_ (by show _ ≤ wr.heap.size + 1; omega) (by show w5.heap.size ≤ _; simp <;> omega) HT'.out ?_ ?_, by simp [H.out.len], ?_, ?_, ?_, ?_⟩
          · repeat (with_reducible first | exact hb | refine Bk.alloc ?_ _)
          · repeat (with_reducible first | exact (AW.out lo).sub (Nat.le_refl _) (by omega) | refine AgreeT.trans ?_ (agreeT_alloc _ _) | refine AgreeT.trans ?_ (agreeT_set _ (by omega)))
          · repeat (with_reducible first | exact AW.out _ | refine AgreeT.trans ?_ (agreeT_alloc _ _) | refine AgreeT.trans ?_ (agreeT_set _ (by omega)))
          · show li = _; rw [H.out.wse]; exact IT.out.1
          · refine (show Ser lo hi (wr.heap.size + 1) w5.heap.size _ (.iface T' (ptr g')) li wsi from HSER.out.agree ?_ ?_)
            all_goals repeat (with_reducible first | exact AgreeT.refl _ _ _ | refine AgreeT.trans ?_ (agreeT_alloc _ _) | refine AgreeT.trans ?_ (agreeT_set _ (by omega)))
          · intro h; cases h
          · rw [wsX_snoc, ws_take its k _ HIT.out, H.out.wse]
          · repeat (with_reducible first | exact B5.out | refine Below.alloc ?_ (by first | (simp; done) | (simp <;> omega) | omega) _ | refine Below.setCell ?_ (by first | (simp; done) | (simp <;> omega) | omega) _)
          · repeat (with_reducible first | exact M5.out _ _ _ H.out.rb | refine Bk.alloc ?_ _ | refine Bk.set ?_ (by omega))
          · repeat (with_reducible first | exact M5.out _ _ _ H.out.lb | refine Bk.alloc ?_ _ | refine Bk.set ?_ (by omega))
        case measure => simp [intOf]; omega
      · by_cases hlast : k + 1 = n0
        · have hb : (((k : Int) + 1) == (n0 : Int)) = true := by simp; omega
          have HL := Lib.hid hlast
          clear hlast
          go_wp2_with fail
          go_roundw
          case rel =>
            refine ⟨k + 1, xs ++ [⟨T', g', li, wr.heap.size + 1, w5.heap.size, wsi, (w5.heap.size + 1)⟩], by omega, by go_num, ((H.out.row.move fun cs hb => M5.out _ _ _ hb).set H.out.len hlt ⟨T', g', li, wr.heap.size + 1, w5.heap.size, wsi, (w5.heap.size + 1)⟩ (.iface 89 (ptr (w5.heap.size + 1))) (by rw [if_pos ⟨rfl, HL.out⟩])).move (fun cs hb => ?_), ItemsOk.snoc (H.out.items.move (by simp <;> omega) ?_ ?_) ?_ (by show _ ≤ wr.heap.size + 1; omega) (by show w5.heap.size ≤ _; simp <;> omega) HT'.out ?_ ?_, by simp [H.out.len], ?_, ?_, ?_, ?_⟩
            · repeat (with_reducible first | exact hb | refine Bk.alloc ?_ _)
            · repeat (with_reducible first | exact (AW.out lo).sub (Nat.le_refl _) (by omega) | refine AgreeT.trans ?_ (agreeT_alloc _ _) | refine AgreeT.trans ?_ (agreeT_set _ (by omega)))
            · repeat (with_reducible first | exact AW.out _ | refine AgreeT.trans ?_ (agreeT_alloc _ _) | refine AgreeT.trans ?_ (agreeT_set _ (by omega)))
            · show li = _; rw [H.out.wse]; exact IT.out.1
            · refine (show Ser lo hi (wr.heap.size + 1) w5.heap.size _ (.iface T' (ptr g')) li wsi from HSER.out.agree ?_ ?_)
              all_goals repeat (with_reducible first | exact AgreeT.refl _ _ _ | refine AgreeT.trans ?_ (agreeT_alloc _ _) | refine AgreeT.trans ?_ (agreeT_set _ (by omega)))
            · intro _ _; refine ⟨by show _ ≤ w5.heap.size + 1; omega, by show w5.heap.size + 1 < _; simp, ?_⟩; show Bk _ (w5.heap.size + 1) _ #[.iface T' (ptr g'), .int .i32 (li : Int)]; repeat (with_reducible first | exact Bk.new' _ _ _ _ (by simp) | refine Bk.alloc ?_ _ | refine Bk.set ?_ (by omega))
            · rw [wsX_snoc, ws_take its k _ HIT.out, H.out.wse]
            · repeat (with_reducible first | exact B5.out | refine Below.alloc ?_ (by first | (simp; done) | (simp <;> omega) | omega) _ | refine Below.setCell ?_ (by first | (simp; done) | (simp <;> omega) | omega) _)
            · repeat (with_reducible first | exact M5.out _ _ _ H.out.rb | refine Bk.alloc ?_ _ | refine Bk.set ?_ (by omega))
            · repeat (with_reducible first | exact M5.out _ _ _ H.out.lb | refine Bk.alloc ?_ _ | refine Bk.set ?_ (by omega))
          case measure => simp [intOf]; omega
        · have hb : (((k : Int) + 1) == (n0 : Int)) = false := by simp; omega
          have HL := Lib.hid hlast
          clear hlast
          go_wp2_with fail
          go_roundw
          case rel =>
            refine ⟨k + 1, xs ++ [⟨T', g', li, wr.heap.size + 1, w5.heap.size, wsi, 0⟩], by omega, by go_num, ((H.out.row.move fun cs hb => M5.out _ _ _ hb).set H.out.len hlt ⟨T', g', li, wr.heap.size + 1, w5.heap.size, wsi, 0⟩ (.iface T' (ptr g')) (by rw [if_neg (fun h => HL.out h.2)]; rfl)).move (fun cs hb => ?_), ItemsOk.snoc (H.out.items.move (by simp <;> omega) ?_ ?_) ?_ (by show _ ≤ wr.heap.size + 1; omega) (by show w5.heap.size ≤ _; simp <;> omega) HT'.out ?_ ?_, by simp [H.out.len], ?_, ?_, ?_, ?_⟩
            · repeat (with_reducible first | exact hb | refine Bk.alloc ?_ _)
            · repeat (with_reducible first | exact (AW.out lo).sub (Nat.le_refl _) (by omega) | refine AgreeT.trans ?_ (agreeT_alloc _ _) | refine AgreeT.trans ?_ (agreeT_set _ (by omega)))
            · repeat (with_reducible first | exact AW.out _ | refine AgreeT.trans ?_ (agreeT_alloc _ _) | refine AgreeT.trans ?_ (agreeT_set _ (by omega)))
            · show li = _; rw [H.out.wse]; exact IT.out.1
            · refine (show Ser lo hi (wr.heap.size + 1) w5.heap.size _ (.iface T' (ptr g')) li wsi from HSER.out.agree ?_ ?_)
              all_goals repeat (with_reducible first | exact AgreeT.refl _ _ _ | refine AgreeT.trans ?_ (agreeT_alloc _ _) | refine AgreeT.trans ?_ (agreeT_set _ (by omega)))
            · intro _ h; have h1 := H.out.len; exact absurd (by omega) HL.out
            · rw [wsX_snoc, ws_take its k _ HIT.out, H.out.wse]
            · repeat (with_reducible first | exact B5.out | refine Below.alloc ?_ (by first | (simp; done) | (simp <;> omega) | omega) _ | refine Below.setCell ?_ (by first | (simp; done) | (simp <;> omega) | omega) _)
            · repeat (with_reducible first | exact M5.out _ _ _ H.out.rb | refine Bk.alloc ?_ _ | refine Bk.set ?_ (by omega))
            · repeat (with_reducible first | exact M5.out _ _ _ H.out.lb | refine Bk.alloc ?_ _ | refine Bk.set ?_ (by omega))
          case measure => simp [intOf]; omega
    · as_aux_lemma =>
      have bq := HQ.out.later H.out.bl
      have q3 : wr.cell? ⟨q, 3, none⟩ = some (.bool sg) := bq.cell 3
      have l0 : wr.cell? ⟨w1.heap.size + 1 + 1, 0, none⟩ = some (.int .i32 (l : Int)) := H.out.lb.cell 0
      have r0 : wr.cell? ⟨w1.heap.size + 1, 0, none⟩ = some .nilIface := H.out.rb.cell 0
      have r1 : wr.cell? ⟨w1.heap.size + 1, 1, none⟩ = some (.int .i32 0) := H.out.rb.cell 1
      have fr := H.out.rb.frozen
      have zqr := bq.lt
      have zr := H.out.rb.lt
      have zl := H.out.lb.lt
      have szr := H.out.bl.size
      have kn : k = n0 := by omega
      have KN := Lib.hid kn
      have zK2 : w1.heap.size + 1 + 1 + 1 < wr.heap.size := by obtain ⟨cs, h⟩ := H.out.row.bk; exact h.lt
      have KP := Lib.hid (show ∀ w', Kp (w1.heap.size + 1) wr w' → w'.cell? ⟨w1.heap.size + 1 + 1, 0, none⟩ = some (.int .i32 (l : Int)) ∧ w'.cell? ⟨q, 3, none⟩ = some (.bool sg) from fun w' h => ⟨h.cell (by omega) l0, h.cell (by omega) q3⟩)
      clear kn bq
      go_wp2_with fail
      go_region_held3 (fun w' => w'.cell? ⟨w1.heap.size + 1 + 1, 0, none⟩ = some (.int .i32 (l : Int)) ∧ w'.cell? ⟨q, 3, none⟩ = some (.bool sg)) ((refine KP.out _ ?_; (repeat (first | exact Kp.refl _ _ | refine Kp.drew ?_ | refine Kp.alloc ?_ _ | refine Kp.set ?_ _ _)))) (fail)
      go_wp2_with fail
      refine bodyPost_ret (v := .agg #[.iface 93 (ptr wr.heap.size), .int .i32 (l : Int)]) (by simp [results, Try.results8, go_sem, *]) rfl ⟨_, _, rfl, ?_, by decide, ?_⟩
      · repeat (with_reducible first | exact H.out.bl | refine Below.drew ?_ | refine Below.alloc ?_ (by first | (simp; done) | (simp <;> omega) | omega) _ | refine Below.setCell ?_ (by first | (simp; done) | (simp <;> omega) | omega) _)
      · have hl := H.out.len
        have e1 : wsOf its = wsX xs := by rw [H.out.wse, KN.out, ← HLEN.out, List.take_length]
        have hb := HBO.out
        rw [e1] at hb ⊢
        refine Lib.hid (sa lo hi w1.heap.size _ _ wr.heap.size l n0 (w1.heap.size + 1 + 1 + 1) sp sg xs n15 HSP0.out (by have := KN.out; omega) ?_ (by omega) (by simp) (by omega) (by simp; omega) ?_ ?_ hb)
        · repeat (with_reducible first | exact Bk.new' _ _ _ _ (by simp) | refine Bk.drew ?_ | refine Bk.alloc ?_ _ | refine Bk.set ?_ (by omega))
        · refine H.out.row.move fun cs' hb => ?_
          repeat (with_reducible first | exact hb | refine Bk.drew ?_ | refine Bk.alloc ?_ _ | refine Bk.set ?_ (by omega))
        · refine (H.out.items.move (hi' := _) (by simp) ?_ ?_).mono (by omega)
          · show AgreeT _ _ wr _
            exact ((agreeT_set wr (by omega)).trans (agreeT_set _ (by omega))).trans (agreeT_alloc _ _)
          show AgreeT _ _ wr _
          exact ((agreeT_set wr (.inl (by omega))).trans (agreeT_set _ (.inl (by omega)))).trans (agreeT_alloc _ _)

end Go.Proofs.Ytokkndnicpgdkaa
