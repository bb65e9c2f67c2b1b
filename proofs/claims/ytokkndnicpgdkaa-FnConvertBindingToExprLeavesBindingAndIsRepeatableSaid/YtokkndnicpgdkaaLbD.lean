/-
  The parser on an array pattern; no statement of its own.
-/
import Derived.Test.YtokkndnicpgdkaaRows
import Derived.WalkKit
import Derived.ProofKit
import Derived.OpenShut
import Derived.Test.YtokkndnicpgdkaaSlW
import Derived.Test.YtokkndnicpgdkaaLbA
import Derived.Test.YtokkndnicpgdkaaLbR
import Derived.Test.YtokkndnicpgdkaaLbE
import Derived.Test.YtokkndnicpgdkaaCbW
import Derived.Test.YtokkndnicpgdkaaLbK
import Derived.Test.YtokkndnicpgdkaaLbB
import Derived.Test.YtokkndnicpgdkaaLbC
import Derived.WalkLawsBesides
import Derived.WalkSpells
import Derived.Below
import Derived.Lib.Hide
import Derived.Outline
import Derived.OwnWalk
import Derived.Laws.OwnMore
import Derived.Laws.MakeOwn
import Derived.Maps.AppendAt
import Derived.RegionTactic
import Derived.Deep.QuietTactic
import Derived.BigQuiet
import Derived.Deep.Cut
import Derived.LoopTactic
namespace Go.Proofs.Ytokkndnicpgdkaa
open Go.ChangeShapes Go.WideShapes Go.ChangeAt Go.RowKit

set_option linter.unusedVariables false

theorem info_ab : (Try.prog.info? 60).map (fun i => (i.zero, i.size, i.bytes)) = some (some (.agg #[.nilIface, .int .i32 0, .nilIface, .int .i32 0, .int .i32 0]), 5, 56) := by kernel_rfl
/-- The parser on what follows, with fuel. -/
def Self (n : Nat) (A : Option Addr) (c B : Nat) (toks : List Nat) (F : Nat) : Prop := ∀ (P pos : Nat) (cs : List Nat) (w : World), n - pos ≤ F → pos ≤ n → PSt P B A n c pos cs w → Sl w B A n (words toks) → cs.length + 1 + 30 * (n - pos) ≤ 1000000 → Calls Try.prog 5 #[ptr P] w (Psd P B A n c pos cs w)
set_option maxRecDepth 100000 in
set_option maxHeartbeats 2000000 in
theorem parse_array (P B n c pos F : Nat) (A : Option Addr) (toks cs : List Nat) (w : World) (hs : PSt P B A n c pos cs w) (hp : pos < n) (ht : Sl w B A n (words toks)) (hz : ∀ t ∈ toks, t < 4294967296) (hk : toks.getD pos 0 % 4 = 2) (ca : ArrOk) (ih : Self n A c B toks F) (hF : n - pos ≤ F + 1) (hpb : n ≤ 100000) (hl : cs.length + 1 + 30 * (n - pos) ≤ 1000000) :
    Calls Try.prog 5 #[ptr P] w (Psd P B A n c pos cs w) := by
  obtain ⟨va, vc, hP, hown, hB⟩ := hs
  obtain ⟨bb, off, u, hA, hbb, hu, hx⟩ := ht.at_ (k := pos) hp
  obtain ⟨t, ht0, rfl⟩ : ∃ t : Nat, toks[pos]? = some t ∧ Value.int .u32 (t : Int) = u := by simpa [words] using hu
  have hgd : toks.getD pos 0 = t := by rw [List.getD_eq_getElem?_getD, ht0]; rfl
  rw [hgd] at hk
  have tb : t < 4294967296 := hz t (List.mem_of_getElem? ht0)
  have hk3 : bits .and .u32 (t : Int) 3 = 2 := by rw [and3 t tb, hk]; rfl
  have hnp : ¬ (n : Int) ≤ (pos : Int) := by omega
  have hbP : bb ≠ P := by omega
  obtain ⟨p1, hp1⟩ : ∃ p1, p1 = pos + 1 := ⟨_, rfl⟩
  have e1 : ((pos : Int) + 1) = (p1 : Int) := by omega
  have E1 := Lib.hid e1
  have HGD := Lib.hid hgd
  have HK := Lib.hid hk
  subst hA
  have HS := Lib.hid ht
  have IH := Lib.hid ih
  have CA := Lib.hid ca
  clear ht hu ht0 hgd hk e1 ih ca
  obtain ⟨n0, hn0e⟩ : ∃ n0, n0 = t / 4 % 16 := ⟨_, rfl⟩
  have hn0 : bits .and .u32 ((t : Int) / 4) 15 = (n0 : Int) := by
    have h := and15 (t / 4) (by omega)
    rw [show ((t / 4 : Nat) : Int) = (t : Int) / 4 by omega] at h
    rw [h, hn0e]
  have n15 : n0 ≤ 15 := by omega
  obtain ⟨b6, hb6⟩ : ∃ b6 : Bool, b6 = decide (t / 64 % 2 = 1) := ⟨_, rfl⟩
  obtain ⟨b7, hb7⟩ : ∃ b7 : Bool, b7 = decide (t / 128 % 2 = 1) := ⟨_, rfl⟩
  have h6 : (bits .and .u32 ((t : Int) / 64) 1 == 1) = b6 := by
    have h := and1 (t / 64) (by omega)
    rw [show ((t / 64 : Nat) : Int) = (t : Int) / 64 by omega] at h
    rw [h, hb6, Bool.eq_iff_iff]; simp; omega
  have h7 : (bits .and .u32 ((t : Int) / 128) 1 == 1) = b7 := by
    have h := and1 (t / 128) (by omega)
    rw [show ((t / 128 : Nat) : Int) = (t : Int) / 128 by omega] at h
    rw [h, hb7, Bool.eq_iff_iff]; simp; omega
  obtain ⟨c0, hc0⟩ : ∃ c0, c0 = 2 + 4 * n0 := ⟨_, rfl⟩
  obtain ⟨sp, hsp⟩ : ∃ sp : Bool, sp = (b6 && decide (0 < n0)) := ⟨_, rfl⟩
  obtain ⟨c64, hc64⟩ : ∃ c64, c64 = c0 + 64 := ⟨_, rfl⟩
  obtain ⟨c1, hc1⟩ : ∃ c1, c1 = if sp then c64 else c0 := ⟨_, rfl⟩
  obtain ⟨c128, hc128⟩ : ∃ c128, c128 = c1 + 128 := ⟨_, rfl⟩
  obtain ⟨c2, hc2⟩ : ∃ c2, c2 = if b7 then c128 else c1 := ⟨_, rfl⟩
  have o2 : bits .or .u32 2 ((n0 : Int) * 4) = (c0 : Int) := by
    have h := or_low 2 n0 2 (by omega) (by omega) (by omega)
    rw [show (n0 : Int) * 4 = ((2 ^ 2 * n0 : Nat) : Int) by omega, show (2 : Int) = ((2 : Nat) : Int) from rfl, h]; omega
  have o64 : bits .or .u32 (c0 : Int) 64 = (c64 : Int) := by
    have h := or_low c0 1 6 (by omega) (by omega) (by omega)
    rw [show (64 : Int) = ((2 ^ 6 * 1 : Nat) : Int) from rfl, h]; omega
  have c1b : c1 < 128 := by rw [hc1]; split <;> omega
  have o128 : bits .or .u32 (c1 : Int) 128 = (c128 : Int) := by
    have h := or_low c1 1 7 (by omega) (by omega) (by omega)
    rw [show (128 : Int) = ((2 ^ 7 * 1 : Nat) : Int) from rfl, h]; omega
  have HC1 := Lib.hid hc1
  have HC2 := Lib.hid hc2
  have HSP := Lib.hid hsp
  have HW := Lib.hid (And.intro hn0e (And.intro hb6 (And.intro hb7 (And.intro hc0 (And.intro hc64 hc128)))))
  clear hc1 hc2 hsp hn0e hb6 hb7 hc0 hc64 hc128
  have P0 : w.cell? ⟨P, 0, none⟩ = some (.slice (some ⟨bb, off, none⟩) n c) := hP.cell 0
  have P1 : w.cell? ⟨P, 1, none⟩ = some (.int .i64 (pos : Int)) := hP.cell 1
  have P2 : w.cell? ⟨P, 2, none⟩ = some (.slice va cs.length vc) := hP.cell 2
  have zP := hP.lt
  have zP1 : P < w.heap.size + 1 := by omega
  have HP := Lib.hid hP
  have HXX := Lib.hid hx
  have hbw : bb < w.heap.size := by omega
  clear hx
  have HO := Lib.hid hown
  clear hP hown
  obtain ⟨i0, hi0, hz0, hz1, hz2⟩ := info_three info_w
  go_enter Try.func5, Try.ntmps5
  go_wp2_with fail
  go_quiet (fail)
  obtain ⟨w3, hw3⟩ : ∃ w3, w3 = ((w.alloc (.cells #[.nilIface, .int .i32 0] 32)).alloc (.cells #[.nilIface, .int .i32 (cs.length : Int)] 32)).drewN nq := ⟨_, rfl⟩
  rw [← hw3]
  have z3 : w.heap.size + 1 < w3.heap.size := by rw [hw3]; show _ < ((w.alloc _).alloc _).heap.size; simp
  have HP3 : Hid (Bk w3 P 26 #[.slice (some ⟨bb, off, none⟩) n c, .int .i64 (pos : Int), .slice va cs.length vc]) := by rw [hw3]; exact (HP.out.alloc _).alloc _
  have HO3 : Hid (w3.ownsRow B 48 1 (.slice va cs.length vc) cs.length (words cs)) := by rw [hw3]; exact (HO.out.alloc _).alloc _
  have R3 : Hid (Bk w3 w.heap.size 32 #[.nilIface, .int .i32 0]) := by rw [hw3]; exact (Bk.new _ _ _).alloc _
  have S3 : Hid (Bk w3 (w.heap.size + 1) 32 #[.nilIface, .int .i32 (cs.length : Int)]) := by rw [hw3]; exact Bk.new' _ _ _ _ (by simp)
  have K3 : Hid (KeepT P w w3) := by rw [hw3]; exact Lib.hid (((KeepT.refl P w).alloc _).alloc _)
  have L3 : Hid (Below B w w3) := by rw [hw3]; exact Lib.hid (below_drewN (((Below.refl B w).alloc (by omega) _).alloc (by simp; omega) _) _)
  have HX3 : Hid (w3.cell? ⟨bb, off + pos, none⟩ = some (.int .u32 (t : Int))) := by rw [hw3]; exact Lib.hid (((Below.refl w.heap.size w).alloc (Nat.le_refl _) _).alloc (by simp) _ |>.cell (p := ⟨bb, off + pos, none⟩) hbw |>.trans HXX.out)
  clear hw3 P0 P1 P2 zP1 HP HO
  have X3 : Hid (w3.cell? ⟨bb, off + pos, none⟩ = some (.int .u32 (t : Int))) := HX3
  have x3 := X3.out
  have P0 : w3.cell? ⟨P, 0, none⟩ = some (.slice (some ⟨bb, off, none⟩) n c) := HP3.out.cell 0
  have P1 : w3.cell? ⟨P, 1, none⟩ = some (.int .i64 (pos : Int)) := HP3.out.cell 1
  have fP := HP3.out.frozen 1
  have zP3 := HP3.out.lt
  have i1 : (0 : Int) ≤ (pos : Int) := by omega
  have i2 : (pos : Int) < (n : Int) := by omega
  have i3 : pos < n := hp
  go_wp2_with fail
  go_quiet (fail)
  obtain ⟨wq, hwq⟩ : ∃ x : World, x = w3.drewN nq := ⟨_, rfl⟩
  rw [← hwq]
  have Q0 : wq.cell? ⟨P, 1, none⟩ = some (.int .i64 (pos : Int)) := by rw [hwq]; exact P1
  have Qf : wq.frozen? ⟨P, 1, none⟩ = false := by rw [hwq]; exact fP
  have Qz : P < wq.heap.size := by rw [hwq]; exact zP3
  have WQ := Lib.hid hwq
  clear x3 P0 P1 fP zP3 hwq i1 i2
  go_upto_region 9 with fail
  obtain ⟨w4, hw4⟩ : ∃ x : World, x = wq.setCell ⟨P, 1, none⟩ (.int .i64 ((pos : Int) + 1)) := ⟨_, rfl⟩
  rw [← hw4]
  have hw5 : w4 = (w3.drewN nq).setCell ⟨P, 1, none⟩ (.int .i64 (p1 : Int)) := by rw [hw4, WQ.out, E1.out]
  have HP4 : Hid (Bk w4 P 26 #[.slice (some ⟨bb, off, none⟩) n c, .int .i64 (p1 : Int), .slice va cs.length vc]) := by rw [hw5]; exact Bk.setSelf (w := w3.drewN nq) (o := 1) (v := .int .i64 (p1 : Int)) HP3.out
  have HO4 : Hid (w4.ownsRow B 48 1 (.slice va cs.length vc) cs.length (words cs)) := by rw [hw5]; exact Lib.hid (own_set (w := w3.drewN nq) HO3.out (own_ne HO3.out HP3.out (by decide)))
  have R4 : Hid (Bk w4 w.heap.size 32 #[.nilIface, .int .i32 0]) := by rw [hw5]; exact Bk.set (w := w3.drewN nq) R3.out (by omega)
  have S4 : Hid (Bk w4 (w.heap.size + 1) 32 #[.nilIface, .int .i32 (cs.length : Int)]) := by rw [hw5]; exact Bk.set (w := w3.drewN nq) S3.out (by omega)
  have K4 : Hid (KeepT P w w4) := by rw [hw5]; exact Lib.hid ((K3.out.drewN _).set _ _)
  have L4 : Hid (Below B w w4) := by rw [hw5]; exact Lib.hid ((below_drewN L3.out _).setCell hB _)
  clear hw4 hw5 Q0 Qf Qz WQ HP3 HO3 R3 S3 K3 L3 X3
  go_upto_region 21 with fail
  go_cut [8] from 18 (fun s wx => s = .bool sp ∧ wx = w4)
  case first => as_aux_lemma =>
    cases b6
    · go_wp2_with fail
      go_meet
      case rel => exact ⟨by rw [HSP.out]; rfl, rfl⟩
    · by_cases h0 : 0 < n0
      · go_wp2_with fail
        go_meet
        case rel => exact ⟨by rw [HSP.out, decide_eq_true h0]; rfl, rfl⟩
      · go_wp2_with fail
        go_meet
        case rel => exact ⟨by rw [HSP.out, decide_eq_false h0]; rfl, rfl⟩
  as_aux_lemma =>
    obtain ⟨rfl, rfl⟩ := hcut
    obtain ⟨w4, rfl⟩ : ∃ x : World, x = wc := ⟨_, rfl⟩
    go_upto_if 127 with fail
    go_cut [9] from 18 (fun s wx => s = .int .u32 (c1 : Int) ∧ wx = w4)
    case first => as_aux_lemma =>
      cases sp
      · go_wp2_with fail
        go_meet
        case rel => exact ⟨by rw [HC1.out]; rfl, rfl⟩
      · go_wp2_with fail
        go_meet
        case rel => exact ⟨by rw [HC1.out]; rfl, rfl⟩
    as_aux_lemma =>
      obtain ⟨rfl, rfl⟩ := hcut
      obtain ⟨w4, rfl⟩ : ∃ x : World, x = wc := ⟨_, rfl⟩
      go_upto_if 130 with fail
      go_cut [9] from 18 (fun s wx => s = .int .u32 (c2 : Int) ∧ wx = w4)
      case first => as_aux_lemma =>
        cases b7
        · go_wp2_with fail
          go_meet
          case rel => exact ⟨by rw [HC2.out]; rfl, rfl⟩
        · go_wp2_with fail
          go_meet
          case rel => exact ⟨by rw [HC2.out]; rfl, rfl⟩
      as_aux_lemma =>
        obtain ⟨rfl, rfl⟩ := hcut
        obtain ⟨w4, rfl⟩ : ∃ x : World, x = wc := ⟨_, rfl⟩
        clear hn0 h6 h7 o2 o64 o128
        have own6 := HO4.out.alloc (.cells #[.int .u32 (c2 : Int)] 48)
        have P0 : w4.cell? ⟨P, 0, none⟩ = some (.slice (some ⟨bb, off, none⟩) n c) := HP4.out.cell 0
        have P1 : w4.cell? ⟨P, 1, none⟩ = some (.int .i64 (p1 : Int)) := HP4.out.cell 1
        have P2 : w4.cell? ⟨P, 2, none⟩ = some (.slice va cs.length vc) := HP4.out.cell 2
        have zP6 := HP4.out.lt
        go_wp2_with (at_builtin; refine wpList_append_own_at _ rfl _ _ 22 rfl B 48 i0 (.int .u32 0) 1 4 Try.underlying22 hi0 hz0 hz1 hz2 rfl (by decide) _ _ _ rfl own6 ⟨w4.heap.size, 0, none⟩ 1 1 [.int .u32 (c2 : Int)] rfl rfl ?c1 ?c2 ?c3 ?c4 ?c5 ?_)
        case c1 => intro j u hj; cases j with | zero => (simp at hj; subst hj; simp [Addr.add]) | succ j => simp at hj
        case c2 => intro u hu; simp at hu; subst hu; rfl
        case c3 => unfold maxLen; omega
        case c4 => omega
        case c5 => simp; omega
        intro v6 w6 hown6 hgrow6 _ _
        obtain ⟨b6, a6, k6, rfl, s6, kp6, bl6⟩ := canon_push (HP4.out.alloc _) own6 hB hown6 hgrow6
        have R6' := Lib.hid (Bk.grown (R4.out.alloc _) hgrow6 (own_ne own6 (R4.out.alloc _) (by decide)))
        have S6' := Lib.hid (Bk.grown (S4.out.alloc _) hgrow6 (own_ne own6 (S4.out.alloc _) (by decide)))
        have zw6 : w4.heap.size + 1 ≤ w6.heap.size := by have := hgrow6.size; simpa using this
        have SP6 := Lib.hid s6
        have KP6 := Lib.hid (K4.out.trans (((KeepT.refl P _).alloc _).trans kp6))
        have BL6 := Lib.hid (L4.out.trans (((Below.refl B _).alloc (by omega) _).trans bl6))
        have p26 : w6.cell? ⟨P, 2, none⟩ = some (.slice va cs.length vc) := b6.cell 2
        have fP6 := b6.frozen 2
        have zb6 := b6.lt
        clear own6 hown6 hgrow6 b6 s6 kp6 bl6 P0 P1 P2
        go_upto_region 28 with fail
        obtain ⟨w7, hw7⟩ : ∃ x : World, x = w6.setCell ⟨P, 2, none⟩ (.slice a6 (cs.length + 1) k6) := ⟨_, rfl⟩
        rw [← hw7]
        have ST6 := SP6
        have KT6 := KP6
        have BT6 := BL6
        rw [← hw7] at ST6 KT6 BT6
        have RR6 : Hid (Bk w7 w.heap.size 32 #[.nilIface, .int .i32 0]) := by rw [hw7]; exact R6'.out.set (by omega)
        have SS6 : Hid (Bk w7 (w.heap.size + 1) 32 #[.nilIface, .int .i32 (cs.length : Int)]) := by rw [hw7]; exact S6'.out.set (by omega)
        have zW6 : w6.heap.size ≤ w7.heap.size := by rw [hw7]; simp
        clear hw7 p26 fP6 zb6 SP6 KP6 BL6 R6' S6'
        obtain ⟨j0, gi, gz0, gz1, gz2⟩ := info_three info_ab
        have hmk := run_make (P := Try.prog) w7 58 60 j0 (.agg #[.nilIface, .int .i32 0, .nilIface, .int .i32 0, .int .i32 0]) Try.underlying58 gi gz0 .i64 .i64 n0 n0 (by omega) (by omega) (by rw [gz2]; omega) (by omega)
        rw [gz1, Int.toNat_natCast] at hmk
        have zW7 := ST6.out.lt
        have r0 := RR6.out.lt
        have s0' := SS6.out.lt
        go_wp2_with fail
        clear hmk gi gz0 gz1 gz2
        have zKP : P < w7.heap.size := zW7
        have hP0 : P < w.heap.size := zP
        go_loopw [11] (fun v wr => ∃ (k pos2 : Nat) (its : List Kd), k ≤ n0 ∧ v = .int .i64 k ∧ Hid (Pa P B (some ⟨bb, off, none⟩) n c p1 w7.heap.size n0 (cs ++ [c2]) w w.heap.size (w.heap.size + 1) cs.length k pos2 its wr)) (fun v _ => n0 - (intOf v).toNat)
        case atStart => as_aux_lemma =>
          refine ⟨0, p1, [], by omega, rfl, ?_, ⟨_, Rw.made w7 60 n0 5 _ rfl (by omega), fun i it h => by simp at h, fun i hi => ⟨rfl, rfl, rfl⟩⟩, fun i it h => by simp at h, KT6.out.alloc _, BT6.out.alloc (by omega) _, RR6.out.alloc _, SS6.out.alloc _, rfl, Nat.le_refl _, by omega, by simp [wsOf]⟩
          have h := ST6.out.alloc (.cells (madeCells #[.nilIface, .int .i32 0, .nilIface, .int .i32 0, .int .i32 0] (n0 * 5)) 60)
          show PSt _ _ _ _ _ _ (cs ++ [c2] ++ []) _
          rw [List.append_nil]; exact h
        case round =>
          obtain ⟨k, pos2, its, hk, rfl, H⟩ := hrel
          by_cases hlt : k < n0
          · as_aux_lemma =>
            have e0 : (cs ++ [c2] ++ wsOf its).length = cs.length + 1 + (wsOf its).length := by simp; omega
            have hw := H.out.wl
            have hp0 := H.out.p0
            have hpn := H.out.pn
            go_wp2_with fail
            refine (IH.out P pos2 (cs ++ [c2] ++ wsOf its) wr (by omega) hpn H.out.st (HS.out.below H.out.bl) (by omega)).mono ?_
            rintro e w8 ⟨T, g, ws, pos3, rfl, q1, q2, q3, hst, hkeep, hbl, hconv⟩
            have hsz := hbl.size
            obtain ⟨f, hrw, -, -⟩ := H.out.row.move fun cs' hb => hkeep.bk hb (by omega) (by decide)
            have d0 : w8.cell? ⟨w7.heap.size, k * 5, none⟩ = some (f k 0) := hrw.cell (i := k) (j := 0) hlt (by omega)
            have d1 : w8.cell? ⟨w7.heap.size, k * 5 + 1, none⟩ = some (f k 1) := hrw.cell (i := k) (j := 1) hlt (by omega)
            have fK := hrw.frozen
            have PA := Lib.hid (Pa.step H.out hlt hP0 hB (by omega) q1 q2 q3 hst.out hkeep hbl hsz (by omega) (by omega) hconv.out)
            clear hst hkeep hbl hconv hrw e0 hw
            generalize hll : (cs ++ [c2] ++ wsOf its).length = ll at PA ⊢
            clear hll
            go_wp2_with fail
            go_roundw
            case rel => exact ⟨k + 1, pos3, its ++ [⟨T, g, ll, wr.heap.size, w8.heap.size, ws⟩], by omega, by go_num, PA⟩
            case measure => simp [intOf]; omega
          · as_aux_lemma =>
            have r0 : wr.cell? ⟨w.heap.size, 0, none⟩ = some .nilIface := H.out.rb.cell 0
            have r1 : wr.cell? ⟨w.heap.size, 1, none⟩ = some (.int .i32 0) := H.out.rb.cell 1
            have s0 : wr.cell? ⟨w.heap.size + 1, 0, none⟩ = some .nilIface := H.out.sb.cell 0
            have s1 : wr.cell? ⟨w.heap.size + 1, 1, none⟩ = some (.int .i32 (cs.length : Int)) := H.out.sb.cell 1
            have fr := H.out.rb.frozen
            have fs := H.out.sb.frozen
            have zr := H.out.rb.lt
            have zs := H.out.sb.lt
            have kn : k = n0 := by omega
            have KN := Lib.hid kn
            clear kn
            go_wp2_with fail
            refine bodyPost_ret (v := .agg #[.iface 61 (ptr wr.heap.size), .int .i32 (cs.length : Int)]) (by simp [results, Try.results5, go_sem, *]) rfl ⟨_, _, c2 :: wsOf its, pos2, rfl, by have := H.out.p0; omega, by have := H.out.pn; omega, ?_, ?_, ?_, ?_, ?_⟩
            · have h1 := H.out.wl
              have h2 := H.out.p0
              have h3 := KN.out
              rw [List.length_cons]; omega
            · have pb : PB P B (some ⟨bb, off, none⟩) n c pos2 (cs ++ (c2 :: wsOf its)) w.heap.size (w.heap.size + 1) wr := ⟨by have h := H.out.st; rw [List.append_assoc] at h; exact h, ⟨_, H.out.rb⟩, ⟨_, H.out.sb⟩⟩
              refine Lib.hid (show PB P B (some ⟨bb, off, none⟩) n c pos2 (cs ++ (c2 :: wsOf its)) w.heap.size (w.heap.size + 1) _ from ?_).1
              repeat (with_reducible first | exact pb | refine PB.alloc ?_ _ | refine PB.set ?_ (by simp) _ _)
            · repeat (with_reducible first | exact H.out.keep | refine KeepT.alloc ?_ _ | refine KeepT.setNew ?_ (by omega) _ _)
            · repeat (with_reducible first | exact H.out.bl | refine Below.alloc ?_ (by first | (simp; done) | (simp <;> omega) | omega) _ | refine Below.setCell ?_ (by first | (simp; done) | (simp <;> omega) | omega) _)
            · refine Lib.hid ?_
              obtain ⟨a1, a2, a3, a4, a5, a6⟩ := HW.out
              have b1 := HC1.out
              have b2 := HC2.out
              have b3 := HSP.out
              have eh : c2 = hdrA n0 sp b7 := by
                unfold hdrA
                rw [b2, a6, b1, a5, a4]
                cases sp <;> cases b7 <;> simp
              have h1 := H.out.wl
              have h2 := H.out.p0
              have h4 := H.out.pn
              have hK := H.out.row.bk
              have hKl : w7.heap.size < wr.heap.size := by obtain ⟨x, hx⟩ := hK; exact hx.lt
              have hKw : w.heap.size + 1 < w7.heap.size := s0'
              rw [eh]
              refine CA.out w.heap.size _ _ wr.heap.size cs.length n0 w7.heap.size sp b7 its n15 (fun h => by rw [h] at b3; have := b3.symm; simp at this; exact this.2) (by have := H.out.len; have := KN.out; omega) ?_ (by omega) (by simp) (by omega) (by simp; omega) ?_ ?_ (by omega)
              · repeat (with_reducible first | exact Bk.new' _ _ _ _ (by simp) | refine Bk.alloc ?_ _ | refine Bk.set ?_ (by omega))
              · refine H.out.row.move fun cs' hb => ?_
                repeat (with_reducible first | exact hb | refine Bk.alloc ?_ _ | refine Bk.set ?_ (by omega))
              · have hk1 := H.out.kids
                rw [List.length_append, List.length_singleton] at hk1
                refine (hk1.move (hi' := _) (by simp) ?_).mono (by omega)
                exact ((((agreeT_set wr (.inl (by omega))).trans (agreeT_set _ (.inl (by omega)))).trans (agreeT_set _ (.inl (by omega)))).trans (agreeT_alloc _ _))

end Go.Proofs.Ytokkndnicpgdkaa
