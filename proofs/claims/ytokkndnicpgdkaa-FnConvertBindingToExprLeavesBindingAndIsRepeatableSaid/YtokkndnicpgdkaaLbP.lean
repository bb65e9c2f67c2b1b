/-
  The parser on an object pattern; no statement of its own.
-/
import Derived.Test.YtokkndnicpgdkaaRows
import Derived.WalkKit
import Derived.ProofKit
import Derived.OpenShut
import Derived.Test.YtokkndnicpgdkaaSlW
import Derived.Test.YtokkndnicpgdkaaLbA
import Derived.Test.YtokkndnicpgdkaaLbR
import Derived.Test.YtokkndnicpgdkaaLbE
import Derived.Test.YtokkndnicpgdkaaCbW
import Derived.Test.YtokkndnicpgdkaaLbK
import Derived.Test.YtokkndnicpgdkaaLbB
import Derived.Test.YtokkndnicpgdkaaLbC
import Derived.Test.YtokkndnicpgdkaaLbD
import Derived.Test.YtokkndnicpgdkaaLbO
import Derived.WalkLawsBesides
import Derived.WalkSpells
import Derived.Below
import Derived.Lib.Hide
import Derived.Outline
import Derived.OwnWalk
import Derived.Laws.OwnMore
import Derived.Laws.MakeOwn
import Derived.Maps.AppendAt
import Derived.RegionTactic
import Derived.Deep.QuietTactic
import Derived.BigQuiet
import Derived.Deep.Cut
import Derived.LoopTactic
namespace Go.Proofs.Ytokkndnicpgdkaa
open Go.ChangeShapes Go.WideShapes Go.ChangeAt Go.RowKit

set_option linter.unusedVariables false

def zPb : Array Value := #[.nilIface, .int .i32 0, .nilIface, .int .i32 0, .nilIface, .int .i32 0, .int .i32 0, .int .i32 0, .bool false, .bool false, .bool false]
theorem info_pb : (Try.prog.info? 70).map (fun i => (i.zero, i.size, i.bytes)) = some (some (.agg zPb), 11, 88) := by kernel_rfl
structure Po (P B : Nat) (A : Option Addr) (n c p1 K n0 : Nat) (cs1 : List Nat) (w : World) (R S l0 k pos : Nat) (its : List Ko) (wr : World) : Prop where
  q : Pq P B K n0 cs1.length w R S l0 k its wr
  st : PSt P B A n c pos (cs1 ++ wsO its) wr
  p0 : p1 ≤ pos
  pn : pos ≤ n
  wl : (wsO its).length ≤ 2 * k + 30 * (pos - p1)
theorem Pr.dflt2 {P B K n0 l1 : Nat} {w : World} {R S l0 k pt kl kg dg0 : Nat} {its : List Ko} {wr : World} (H : Pr P B K n0 l1 w R S l0 k its pt kl kg dg0 false wr) (hk0 : k < n0) (hB : B ≤ P) (hPw : P < w.heap.size) (hK : w.heap.size ≤ K) (o1 : Obj) (v : Nat) (hv : v = fb (pt / 8)) :
    Pr P B K n0 l1 w R S l0 k its pt kl kg (wr.heap.size + 1) true ((((wr.setCell ⟨K, k * 11 + 4, none⟩ (Num (wr.heap.size + 1))).setCell ⟨K, k * 11 + 4 + 1, none⟩ (.int .i32 (kl : Int))).alloc o1).alloc (.cells #[.float .f64 v] 68)) := by
  obtain ⟨cs0, hkb⟩ := H.row.bk
  have r1 : R ≠ K := H.rb.ne hkb (by decide)
  have s1 : S ≠ K := H.sb.ne hkb (by decide)
  have hKg : kg ≠ K := by have := H.kn.1; omega
  have hs := H.bl.size
  have hKw := hkb.lt
  refine ⟨(H.row.dflt H.len hk0 _).move fun cs h => (h.alloc _).alloc _, H.kids.move (by simp <;> omega) ((((AgreeT.refl _ _ _).trans (agreeK _)).trans (agreeK _)).trans (agreeT_alloc _ _) |>.trans (agreeT_alloc _ _)), (((H.keep.setNew hK _ _).setNew hK _ _).alloc _).alloc _, (((H.bl.setCell (by show B ≤ K; omega) _).setCell (by show B ≤ K; omega) _).alloc (by simp <;> omega) _).alloc (by simp <;> omega) _,
    (((H.rb.set r1).set r1).alloc _).alloc _, (((H.sb.set s1).set s1).alloc _).alloc _, H.len, ⟨H.kn.1, by have := H.kn.2.1; simp <;> omega, ((((show Bk wr kg _ _ from H.kn.2.2).set hKg).set hKg).alloc _).alloc _⟩, fun _ => ⟨by omega, by simp <;> omega, ?_⟩⟩
  unfold NumBk
  rw [hv]
  exact Bk.new' _ _ _ _ (by simp)
set_option maxRecDepth 100000 in
set_option maxHeartbeats 4000000 in
theorem parse_object (P B n c pos F : Nat) (A : Option Addr) (toks cs : List Nat) (w : World) (hs : PSt P B A n c pos cs w) (hp : pos < n) (ht : Sl w B A n (words toks)) (hz : ∀ t ∈ toks, t < 4294967296) (hk : toks.getD pos 0 % 4 = 3) (ca : ObjOk) (ih : Self n A c B toks F) (hF : n - pos ≤ F + 1) (hpb : n ≤ 100000) (hl : cs.length + 1 + 30 * (n - pos) ≤ 1000000) :
    Calls Try.prog 5 #[ptr P] w (Psd P B A n c pos cs w) := by
  obtain ⟨va, vc, hP, hown, hB⟩ := hs
  obtain ⟨bb, off, u, hA, hbb, hu, hx⟩ := ht.at_ (k := pos) hp
  obtain ⟨t, ht0, rfl⟩ : ∃ t : Nat, toks[pos]? = some t ∧ Value.int .u32 (t : Int) = u := by simpa [words] using hu
  have hgd : toks.getD pos 0 = t := by rw [List.getD_eq_getElem?_getD, ht0]; rfl
  rw [hgd] at hk
  have tb : t < 4294967296 := hz t (List.mem_of_getElem? ht0)
  have hk3 : bits .and .u32 (t : Int) 3 = 3 := by rw [and3 t tb, hk]; rfl
  have hnp : ¬ (n : Int) ≤ (pos : Int) := by omega
  have hbP : bb ≠ P := by omega
  obtain ⟨p1, hp1⟩ : ∃ p1, p1 = pos + 1 := ⟨_, rfl⟩
  have e1 : ((pos : Int) + 1) = (p1 : Int) := by omega
  have E1 := Lib.hid e1
  have HGD := Lib.hid hgd
  have HK := Lib.hid hk
  subst hA
  have HS := Lib.hid ht
  have IH := Lib.hid ih
  have CA := Lib.hid ca
  clear ht hu ht0 hgd hk e1 ih ca
  obtain ⟨n0, hn0e⟩ : ∃ n0, n0 = t / 4 % 16 := ⟨_, rfl⟩
  have hn0 : bits .and .u32 ((t : Int) / 4) 15 = (n0 : Int) := by
    have h := and15 (t / 4) (by omega)
    rw [show ((t / 4 : Nat) : Int) = (t : Int) / 4 by omega] at h
    rw [h, hn0e]
  have n15 : n0 ≤ 15 := by omega
  obtain ⟨b7, hb7⟩ : ∃ b7 : Bool, b7 = decide (t / 128 % 2 = 1) := ⟨_, rfl⟩
  have h7 : (bits .and .u32 ((t : Int) / 128) 1 == 1) = b7 := by
    have h := and1 (t / 128) (by omega)
    rw [show ((t / 128 : Nat) : Int) = (t : Int) / 128 by omega] at h
    rw [h, hb7, Bool.eq_iff_iff]; simp; omega
  obtain ⟨c0, hc0⟩ : ∃ c0, c0 = 3 + 4 * n0 := ⟨_, rfl⟩
  obtain ⟨c128, hc128⟩ : ∃ c128, c128 = c0 + 128 := ⟨_, rfl⟩
  obtain ⟨c2, hc2⟩ : ∃ c2, c2 = if b7 then c128 else c0 := ⟨_, rfl⟩
  have o2 : bits .or .u32 3 ((n0 : Int) * 4) = (c0 : Int) := by
    have h := or_low 3 n0 2 (by omega) (by omega) (by omega)
    rw [show (n0 : Int) * 4 = ((2 ^ 2 * n0 : Nat) : Int) by omega, show (3 : Int) = ((3 : Nat) : Int) from rfl, h]; omega
  have c0b : c0 < 128 := by omega
  have o128 : bits .or .u32 (c0 : Int) 128 = (c128 : Int) := by
    have h := or_low c0 1 7 (by omega) (by omega) (by omega)
    rw [show (128 : Int) = ((2 ^ 7 * 1 : Nat) : Int) from rfl, h]; omega
  have EH := Lib.hid (show c2 = hdrO n0 b7 by unfold hdrO; rw [hc2, hc128, hc0]; cases b7 <;> simp)
  have HC2 := Lib.hid hc2
  clear hc2 hn0e hb7 hc0 hc128
  have P0 : w.cell? ⟨P, 0, none⟩ = some (.slice (some ⟨bb, off, none⟩) n c) := hP.cell 0
  have P1 : w.cell? ⟨P, 1, none⟩ = some (.int .i64 (pos : Int)) := hP.cell 1
  have P2 : w.cell? ⟨P, 2, none⟩ = some (.slice va cs.length vc) := hP.cell 2
  have zP := hP.lt
  have zP1 : P < w.heap.size + 1 := by omega
  have HP := Lib.hid hP
  have HXX := Lib.hid hx
  have hbw : bb < w.heap.size := by omega
  clear hx
  have HO := Lib.hid hown
  clear hP hown
  obtain ⟨i0, hi0, hz0, hz1, hz2⟩ := info_three info_w
  go_enter Try.func5, Try.ntmps5
  go_wp2_with fail
  go_quiet (fail)
  obtain ⟨w3, hw3⟩ : ∃ w3, w3 = ((w.alloc (.cells #[.nilIface, .int .i32 0] 32)).alloc (.cells #[.nilIface, .int .i32 (cs.length : Int)] 32)).drewN nq := ⟨_, rfl⟩
  rw [← hw3]
  have z3 : w.heap.size + 1 < w3.heap.size := by rw [hw3]; show _ < ((w.alloc _).alloc _).heap.size; simp
  have HP3 : Hid (Bk w3 P 26 #[.slice (some ⟨bb, off, none⟩) n c, .int .i64 (pos : Int), .slice va cs.length vc]) := by rw [hw3]; exact (HP.out.alloc _).alloc _
  have HO3 : Hid (w3.ownsRow B 48 1 (.slice va cs.length vc) cs.length (words cs)) := by rw [hw3]; exact (HO.out.alloc _).alloc _
  have R3 : Hid (Bk w3 w.heap.size 32 #[.nilIface, .int .i32 0]) := by rw [hw3]; exact (Bk.new _ _ _).alloc _
  have S3 : Hid (Bk w3 (w.heap.size + 1) 32 #[.nilIface, .int .i32 (cs.length : Int)]) := by rw [hw3]; exact Bk.new' _ _ _ _ (by simp)
  have K3 : Hid (KeepT P w w3) := by rw [hw3]; exact Lib.hid (((KeepT.refl P w).alloc _).alloc _)
  have L3 : Hid (Below B w w3) := by rw [hw3]; exact Lib.hid (below_drewN (((Below.refl B w).alloc (by omega) _).alloc (by simp; omega) _) _)
  have HX3 : Hid (w3.cell? ⟨bb, off + pos, none⟩ = some (.int .u32 (t : Int))) := by rw [hw3]; exact Lib.hid (((Below.refl w.heap.size w).alloc (Nat.le_refl _) _).alloc (by simp) _ |>.cell (p := ⟨bb, off + pos, none⟩) hbw |>.trans HXX.out)
  clear hw3 P0 P1 P2 zP1 HP HO
  have X3 : Hid (w3.cell? ⟨bb, off + pos, none⟩ = some (.int .u32 (t : Int))) := HX3
  have x3 := X3.out
  have P0 : w3.cell? ⟨P, 0, none⟩ = some (.slice (some ⟨bb, off, none⟩) n c) := HP3.out.cell 0
  have P1 : w3.cell? ⟨P, 1, none⟩ = some (.int .i64 (pos : Int)) := HP3.out.cell 1
  have fP := HP3.out.frozen 1
  have zP3 := HP3.out.lt
  have i1 : (0 : Int) ≤ (pos : Int) := by omega
  have i2 : (pos : Int) < (n : Int) := by omega
  have i3 : pos < n := hp
  go_wp2_with fail
  go_quiet (fail)
  obtain ⟨wq, hwq⟩ : ∃ x : World, x = w3.drewN nq := ⟨_, rfl⟩
  rw [← hwq]
  have Q0 : wq.cell? ⟨P, 1, none⟩ = some (.int .i64 (pos : Int)) := by rw [hwq]; exact P1
  have Qf : wq.frozen? ⟨P, 1, none⟩ = false := by rw [hwq]; exact fP
  have Qz : P < wq.heap.size := by rw [hwq]; exact zP3
  have WQ := Lib.hid hwq
  clear x3 P0 P1 fP zP3 hwq i1 i2
  go_upto_region 9 with fail
  obtain ⟨w4, hw4⟩ : ∃ x : World, x = wq.setCell ⟨P, 1, none⟩ (.int .i64 ((pos : Int) + 1)) := ⟨_, rfl⟩
  rw [← hw4]
  have hw5 : w4 = (w3.drewN nq).setCell ⟨P, 1, none⟩ (.int .i64 (p1 : Int)) := by rw [hw4, WQ.out, E1.out]
  have HP4 : Hid (Bk w4 P 26 #[.slice (some ⟨bb, off, none⟩) n c, .int .i64 (p1 : Int), .slice va cs.length vc]) := by rw [hw5]; exact Bk.setSelf (w := w3.drewN nq) (o := 1) (v := .int .i64 (p1 : Int)) HP3.out
  have HO4 : Hid (w4.ownsRow B 48 1 (.slice va cs.length vc) cs.length (words cs)) := by rw [hw5]; exact Lib.hid (own_set (w := w3.drewN nq) HO3.out (own_ne HO3.out HP3.out (by decide)))
  have R4 : Hid (Bk w4 w.heap.size 32 #[.nilIface, .int .i32 0]) := by rw [hw5]; exact Bk.set (w := w3.drewN nq) R3.out (by omega)
  have S4 : Hid (Bk w4 (w.heap.size + 1) 32 #[.nilIface, .int .i32 (cs.length : Int)]) := by rw [hw5]; exact Bk.set (w := w3.drewN nq) S3.out (by omega)
  have K4 : Hid (KeepT P w w4) := by rw [hw5]; exact Lib.hid ((K3.out.drewN _).set _ _)
  have L4 : Hid (Below B w w4) := by rw [hw5]; exact Lib.hid ((below_drewN L3.out _).setCell hB _)
  clear hw4 hw5 Q0 Qf Qz WQ HP3 HO3 R3 S3 K3 L3 X3
  go_upto_if 168 with fail
  go_cut [12] from 18 (fun s wx => s = .int .u32 (c2 : Int) ∧ wx = w4)
  case first => as_aux_lemma =>
    cases b7
    · go_wp2_with fail
      go_meet
      case rel => exact ⟨by rw [HC2.out]; rfl, rfl⟩
    · go_wp2_with fail
      go_meet
      case rel => exact ⟨by rw [HC2.out]; rfl, rfl⟩
  as_aux_lemma =>
    obtain ⟨rfl, rfl⟩ := hcut
    obtain ⟨w4, rfl⟩ : ∃ x : World, x = wc := ⟨_, rfl⟩
    clear hn0 h7 o2 o128
    have own6 := HO4.out.alloc (.cells #[.int .u32 (c2 : Int)] 48)
    have P0 : w4.cell? ⟨P, 0, none⟩ = some (.slice (some ⟨bb, off, none⟩) n c) := HP4.out.cell 0
    have P1 : w4.cell? ⟨P, 1, none⟩ = some (.int .i64 (p1 : Int)) := HP4.out.cell 1
    have P2 : w4.cell? ⟨P, 2, none⟩ = some (.slice va cs.length vc) := HP4.out.cell 2
    have zP6 := HP4.out.lt
    go_wp2_with (at_builtin; refine wpList_append_own_at _ rfl _ _ 22 rfl B 48 i0 (.int .u32 0) 1 4 Try.underlying22 hi0 hz0 hz1 hz2 rfl (by decide) _ _ _ rfl own6 ⟨w4.heap.size, 0, none⟩ 1 1 [.int .u32 (c2 : Int)] rfl rfl ?c1 ?c2 ?c3 ?c4 ?c5 ?_)
    case c1 => intro j u hj; cases j with | zero => (simp at hj; subst hj; simp [Addr.add]) | succ j => simp at hj
    case c2 => intro u hu; simp at hu; subst hu; rfl
    case c3 => unfold maxLen; omega
    case c4 => omega
    case c5 => simp; omega
    intro v6 w6 hown6 hgrow6 _ _
    obtain ⟨b6, a6, k6, rfl, s6, kp6, bl6⟩ := canon_push (HP4.out.alloc _) own6 hB hown6 hgrow6
    have R6' := Lib.hid (Bk.grown (R4.out.alloc _) hgrow6 (own_ne own6 (R4.out.alloc _) (by decide)))
    have S6' := Lib.hid (Bk.grown (S4.out.alloc _) hgrow6 (own_ne own6 (S4.out.alloc _) (by decide)))
    have zw6 : w4.heap.size + 1 ≤ w6.heap.size := by have := hgrow6.size; simpa using this
    have SP6 := Lib.hid s6
    have KP6 := Lib.hid (K4.out.trans (((KeepT.refl P _).alloc _).trans kp6))
    have BL6 := Lib.hid (L4.out.trans (((Below.refl B _).alloc (by omega) _).trans bl6))
    have p26 : w6.cell? ⟨P, 2, none⟩ = some (.slice va cs.length vc) := b6.cell 2
    have fP6 := b6.frozen 2
    have zb6 := b6.lt
    clear own6 hown6 hgrow6 b6 s6 kp6 bl6 P0 P1 P2
    go_upto_region 39 with fail
    obtain ⟨w7, hw7⟩ : ∃ x : World, x = w6.setCell ⟨P, 2, none⟩ (.slice a6 (cs.length + 1) k6) := ⟨_, rfl⟩
    rw [← hw7]
    have ST6 := SP6
    have KT6 := KP6
    have BT6 := BL6
    rw [← hw7] at ST6 KT6 BT6
    have RR6 : Hid (Bk w7 w.heap.size 32 #[.nilIface, .int .i32 0]) := by rw [hw7]; exact R6'.out.set (by omega)
    have SS6 : Hid (Bk w7 (w.heap.size + 1) 32 #[.nilIface, .int .i32 (cs.length : Int)]) := by rw [hw7]; exact S6'.out.set (by omega)
    have zW6 : w6.heap.size ≤ w7.heap.size := by rw [hw7]; simp
    clear hw7 p26 fP6 zb6 SP6 KP6 BL6 R6' S6'
    obtain ⟨j0, gi, gz0, gz1, gz2⟩ := info_three info_pb
    have hmk := run_make (P := Try.prog) w7 64 70 j0 (.agg zPb) Try.underlying64 gi gz0 .i64 .i64 n0 n0 (by omega) (by omega) (by rw [gz2]; omega) (by omega)
    rw [gz1, Int.toNat_natCast] at hmk
    have zW7 := ST6.out.lt
    have r0 := RR6.out.lt
    have s0' := SS6.out.lt
    go_wp2_with fail
    clear hmk gi gz0 gz1 gz2
    have zKP : P < w7.heap.size := zW7
    have hP0 : P < w.heap.size := zP
    have hPB := hB
    go_loopw [14] (fun v wr => ∃ (k pos2 : Nat) (its : List Ko), k ≤ n0 ∧ v = .int .i64 k ∧ Hid (Po P B (some ⟨bb, off, none⟩) n c p1 w7.heap.size n0 (cs ++ [c2]) w w.heap.size (w.heap.size + 1) cs.length k pos2 its wr)) (fun v _ => n0 - (intOf v).toNat)
    case atStart => as_aux_lemma =>
      refine ⟨0, p1, [], by omega, rfl, Lib.hid ⟨⟨⟨_, Rw.made w7 70 n0 11 zPb rfl (by omega), fun i it h => by simp at h, fun i hi => ⟨rfl, rfl, rfl, fun _ => ⟨rfl, rfl⟩⟩⟩, fun i it h => by simp at h, KT6.out.alloc _, BT6.out.alloc (by omega) _, RR6.out.alloc _, SS6.out.alloc _, rfl⟩, ?_, Nat.le_refl _, by omega, by simp [wsO]⟩⟩
      have h := ST6.out.alloc (.cells (madeCells zPb (n0 * 11)) 70)
      show PSt _ _ _ _ _ _ (cs ++ [c2] ++ []) _
      rw [List.append_nil]; exact h
    case round =>
      obtain ⟨k, pos2, its, hk, rfl, H⟩ := hrel
      by_cases hlt : k < n0
      · as_aux_lemma =>
        obtain ⟨va2, vc2, hP2, ho2, -⟩ := H.out.st
        have P0 : wr.cell? ⟨P, 0, none⟩ = some (.slice (some ⟨bb, off, none⟩) n c) := hP2.cell 0
        have P1 : wr.cell? ⟨P, 1, none⟩ = some (.int .i64 (pos2 : Int)) := hP2.cell 1
        have zPr := hP2.lt
        have hp2 := H.out.pn
        clear hP2 ho2
        have hdec : decide ((pos2 : Int) < (n : Int)) = decide (pos2 < n) := by simp
        go_wp2_with fail
        go_quiet (fail)
        obtain ⟨w3, hw3⟩ : ∃ x : World, x = wr.drewN nq := ⟨_, rfl⟩
        rw [← hw3]
        have H3 : Hid (Po P B (some ⟨bb, off, none⟩) n c p1 w7.heap.size n0 (cs ++ [c2]) w w.heap.size (w.heap.size + 1) cs.length k pos2 its w3) := by
          rw [hw3]
          exact Lib.hid ⟨H.out.q.move ((KeepT.refl P wr).drewN _) (below_drewN (Below.refl B wr) _) (by omega) (by omega) (by omega) (by omega), H.out.st, H.out.p0, H.out.pn, H.out.wl⟩
        have b3 : B ≤ w3.heap.size := by rw [hw3]; show B ≤ wr.heap.size; omega
        clear hw3 P0 P1 zPr H
        go_upto_if 197 with fail
        go_cut [15] from 183 to 282 (fun s wx => ∃ pt pos3 : Nat, s = .int .u32 (pt : Int) ∧ pt < 4294967296 ∧ pos2 ≤ pos3 ∧ pos3 ≤ n ∧ Hid (Po P B (some ⟨bb, off, none⟩) n c p1 w7.heap.size n0 (cs ++ [c2]) w w.heap.size (w.heap.size + 1) cs.length k pos3 its wx))
        case first => as_aux_lemma =>
          by_cases hlp : pos2 < n
          · obtain ⟨bb2, off2, u2, hA2, hbb2, hu2, hx2⟩ := (HS.out.below H3.out.q.bl).at_ (k := pos2) hlp
            injection hA2 with hA2
            injection hA2 with e1 e2
            subst e1 e2
            obtain ⟨t2, ht2, rfl⟩ : ∃ t2 : Nat, toks[pos2]? = some t2 ∧ Value.int .u32 (t2 : Int) = u2 := by simpa [words] using hu2
            have tb2 : t2 < 4294967296 := hz t2 (List.mem_of_getElem? ht2)
            obtain ⟨va2, vc2, hP2, ho2, -⟩ := H3.out.st
            have P0 : w3.cell? ⟨P, 0, none⟩ = some (.slice (some ⟨bb, off, none⟩) n c) := hP2.cell 0
            have P1 : w3.cell? ⟨P, 1, none⟩ = some (.int .i64 (pos2 : Int)) := hP2.cell 1
            have fP := hP2.frozen 1
            have zPr := hP2.lt
            have i1 : (0 : Int) ≤ (pos2 : Int) := by omega
            have i2 : (pos2 : Int) < (n : Int) := by omega
            have HP2 := Lib.hid hP2
            have HO2 := Lib.hid ho2
            have HU2 := Lib.hid ht2
            have zbb : bb < w3.heap.size := by omega
            clear hu2 ht2 hP2 ho2
            go_wp2_with fail
            go_quiet (fail)
            go_wp2_with fail
            go_meet
            case rel =>
              refine ⟨t2, pos2 + 1, rfl, tb2, by omega, by omega, Lib.hid ⟨H3.out.q.move (((KeepT.refl P w3).drewN _).set _ _) ((below_drewN (Below.refl B w3) _).setCell hPB _) (by omega) (by omega) (by omega) (by omega), ⟨va2, vc2, ?_, ?_, hPB⟩, by have := H3.out.p0; omega, by omega, by have := H3.out.wl; have := H3.out.p0; omega⟩⟩
              · exact Bk.setSelf (w := w3.drewN nq) (o := 1) (v := .int .i64 ((pos2 + 1 : Nat) : Int)) HP2.out
              · exact own_set (w := w3.drewN nq) HO2.out (own_ne (w := w3.drewN nq) HO2.out HP2.out (by decide))
          · go_wp2_with fail
            go_meet
            case rel => exact ⟨0, pos2, rfl, by omega, by omega, hp2, H3⟩
        as_aux_lemma =>
          obtain ⟨pt, pos3, rfl, hpt, hp3, hn3, H4⟩ := hcut
          obtain ⟨wb, rfl⟩ : ∃ x : World, x = wc := ⟨_, rfl⟩
          obtain ⟨va2, vc2, hP2, ho2, -⟩ := H4.out.st
          obtain ⟨cs3, hcs3⟩ : ∃ cs3, cs3 = cs ++ [c2] ++ wsO its := ⟨_, rfl⟩
          rw [← hcs3] at hP2 ho2
          have hl3 : cs3.length = cs.length + 1 + (wsO its).length := by rw [hcs3]; simp; omega
          have hlb : cs3.length ≤ 1000000 := by have := H4.out.wl; have := H4.out.p0; omega
          have hlb2 : cs3.length + 2 + 30 * (n - pos3) ≤ 1000000 := by have := H4.out.wl; have := H4.out.p0; omega
          have P2 : wb.cell? ⟨P, 2, none⟩ = some (.slice va2 cs3.length vc2) := hP2.cell 2
          have zPb := hP2.lt
          have HP2 := Lib.hid hP2
          have HO2 := Lib.hid ho2
          have HL3 := Lib.hid hl3
          have HCS := Lib.hid hcs3
          obtain ⟨m, hm⟩ : ∃ m, m = pt / 8 := ⟨_, rfl⟩
          have e8 : (pt : Int) / 8 = (m : Int) := by omega
          have HM := Lib.hid hm
          clear hP2 ho2 hl3 hcs3 hm
          have bB : B ≤ wb.heap.size := by have := H4.out.q.bl.size; omega
          go_upto_region 50 with fail
          obtain ⟨wE, hwE⟩ : ∃ x : World, x = ((wb.alloc (.cells #[.iface 65 (ptr (wb.heap.size + 1)), .int .i32 (cs3.length : Int)] 42)).alloc (.cells #[.float .f64 (floatOfInt .f64 (m : Int))] 68)) := ⟨_, rfl⟩
          rw [← hwE]
          have zE : wE.heap.size = wb.heap.size + 2 := by rw [hwE]; simp
          have zE1 : wb.heap.size + 2 ≤ wE.heap.size := by omega
          have HPE : Hid (Bk wE P 26 #[.slice (some ⟨bb, off, none⟩) n c, .int .i64 (pos3 : Int), .slice va2 cs3.length vc2]) := by rw [hwE]; exact (HP2.out.alloc _).alloc _
          have OWE : Hid (wE.ownsRow B 48 1 (.slice va2 cs3.length vc2) cs3.length (words cs3)) := by rw [hwE]; exact (HO2.out.alloc _).alloc _
          have KE : Hid (KeepT P wb wE) := by rw [hwE]; exact Lib.hid (((KeepT.refl P wb).alloc _).alloc _)
          have BE : Hid (Below B wb wE) := by rw [hwE]; exact Lib.hid (((Below.refl B wb).alloc bB _).alloc (by simp; omega) _)
          have XE : Hid (Bk wE wb.heap.size 42 #[.iface 65 (ptr (wb.heap.size + 1)), .int .i32 (cs3.length : Int)]) := by rw [hwE]; exact (Bk.new _ _ _).alloc _
          have NE : Hid (NumBk wE (wb.heap.size + 1) pt) := by rw [hwE]; unfold NumBk fb; rw [← HM.out]; exact Bk.new' _ _ _ _ (by simp)
          clear hwE P2 e8 zE HP2 HO2
          have ownE := OWE.out.alloc (.cells #[.int .u32 (pt : Int)] 48)
          have P2 : wE.cell? ⟨P, 2, none⟩ = some (.slice va2 cs3.length vc2) := HPE.out.cell 2
          have zPE := HPE.out.lt
          go_wp2_with (at_builtin; refine wpList_append_own_at _ rfl _ _ 22 rfl B 48 i0 (.int .u32 0) 1 4 Try.underlying22 hi0 hz0 hz1 hz2 rfl (by decide) _ _ _ rfl ownE ⟨wE.heap.size, 0, none⟩ 1 1 [.int .u32 (pt : Int)] rfl rfl ?sc1 ?sc2 ?sc3 ?sc4 ?sc5 ?_)
          case sc1 => intro j u hj; cases j with | zero => (simp at hj; subst hj; simp [Addr.add]) | succ j => simp at hj
          case sc2 => intro u hu; simp at hu; subst hu; rfl
          case sc3 => unfold maxLen; omega
          case sc4 => omega
          case sc5 => simp; omega
          intro v6 w6 hown6 hgrow6 _ _
          obtain ⟨b6, a6, k6, rfl, s6, kp6, bl6⟩ := canon_push (HPE.out.alloc _) ownE hPB hown6 hgrow6
          have zw6 : wE.heap.size + 1 ≤ w6.heap.size := by have := hgrow6.size; simpa using this
          have S6 := Lib.hid s6
          have K6 := Lib.hid (((KeepT.refl P wE).alloc _).trans kp6)
          have B6 := Lib.hid (((Below.refl B wE).alloc (by omega) _).trans bl6)
          have p26 : w6.cell? ⟨P, 2, none⟩ = some (.slice va2 cs3.length vc2) := b6.cell 2
          have fP6 := b6.frozen 2
          have zb6 := b6.lt
          clear ownE hown6 hgrow6 b6 s6 kp6 bl6 P2
          go_upto_region 51 with fail
          obtain ⟨wF, hwF⟩ : ∃ x : World, x = w6.setCell ⟨P, 2, none⟩ (.slice a6 (cs3.length + 1) k6) := ⟨_, rfl⟩
          rw [← hwF]
          have SF := S6
          have KF0 := K6
          have BF0 := B6
          rw [← hwF] at SF KF0 BF0
          have zF : wb.heap.size + 2 < wF.heap.size := by rw [hwF]; show _ < (w6.setCell _ _).heap.size; simp; omega
          have XF := Lib.hid (KF0.out.bk XE.out (by omega) (by decide))
          have NF : Hid (NumBk wF (wb.heap.size + 1) pt) := KF0.out.bk NE.out (by omega) (by decide)
          have QF := Lib.hid (H4.out.q.move (KE.out.trans KF0.out) (BE.out.trans BF0.out) (by omega) (by omega) (by omega) (by omega))
          clear hwF p26 fP6 zb6 S6 K6 B6 KF0 BF0
          have zKb : w7.heap.size < wb.heap.size := by obtain ⟨x, hx⟩ := H4.out.q.row.bk; exact hx.lt
          obtain ⟨f, hrw, -, -⟩ := QF.out.row
          have d0 : wF.cell? ⟨w7.heap.size, k * 11, none⟩ = some (f k 0) := hrw.cell (i := k) (j := 0) hlt (by omega)
          have d1 : wF.cell? ⟨w7.heap.size, k * 11 + 1, none⟩ = some (f k 1) := hrw.cell (i := k) (j := 1) hlt (by omega)
          have d8 : wF.cell? ⟨w7.heap.size, k * 11 + 8, none⟩ = some (f k 8) := hrw.cell (i := k) (j := 8) hlt (by omega)
          have d9 : wF.cell? ⟨w7.heap.size, k * 11 + 9, none⟩ = some (f k 9) := hrw.cell (i := k) (j := 9) hlt (by omega)
          have fK := hrw.frozen
          have zKF := hrw.lt
          have x0 : wF.cell? ⟨wb.heap.size, 0, none⟩ = some (.iface 65 (ptr (wb.heap.size + 1))) := XF.out.cell 0
          have x1 : wF.cell? ⟨wb.heap.size, 1, none⟩ = some (.int .i32 (cs3.length : Int)) := XF.out.cell 1
          have q1 : (bits .and .u32 (pt : Int) 1 == 1) = decide (pt % 2 = 1) := by
            rw [and1 pt hpt, Bool.eq_iff_iff]; simp; omega
          have q2 : (bits .and .u32 (pt : Int) 2 == 2) = decide (pt / 2 % 2 = 1) := by
            rw [and2 pt hpt, Bool.eq_iff_iff]; simp; omega
          have zxF : wb.heap.size < wF.heap.size := by omega
          clear hrw
          go_upto_region 54 with fail
          obtain ⟨wG, hwG⟩ : ∃ x : World, x = ((((wF.setCell ⟨w7.heap.size, k * 11, none⟩ (Num (wb.heap.size + 1))).setCell ⟨w7.heap.size, k * 11 + 1, none⟩ (.int .i32 (cs3.length : Int))).setCell ⟨w7.heap.size, k * 11 + 9, none⟩ (.bool (decide (pt % 2 = 1)))).setCell ⟨w7.heap.size, k * 11 + 8, none⟩ (.bool (decide (pt / 2 % 2 = 1)))) := ⟨_, rfl⟩
          rw [← hwG]
          have PG : Hid (Pr P B w7.heap.size n0 (cs ++ [c2]).length w w.heap.size (w.heap.size + 1) cs.length k its pt cs3.length (wb.heap.size + 1) 0 false wG) := by
            rw [hwG]
            exact Lib.hid (QF.out.key hlt hPB hP0 (by omega) pt cs3.length (wb.heap.size + 1) ⟨by omega, by omega, NF.out⟩)
          have SG : Hid (PSt P B (some ⟨bb, off, none⟩) n c pos3 (cs3 ++ [pt]) wG) := by
            obtain ⟨cs0, hkb⟩ := QF.out.row.bk
            rw [hwG]
            exact Lib.hid ((((SF.out.set hkb (by decide) (by decide)).set hkb.setSelf (by decide) (by decide)).set hkb.setSelf.setSelf (by decide) (by decide)).set hkb.setSelf.setSelf.setSelf (by decide) (by decide))
          have XG : Hid (Bk wG wb.heap.size 42 #[.iface 65 (ptr (wb.heap.size + 1)), .int .i32 (cs3.length : Int)]) := by
            rw [hwG]
            exact (((XF.out.set (by omega)).set (by omega)).set (by omega)).set (by omega)
          have zG : wb.heap.size + 2 < wG.heap.size := by rw [hwG]; simpa using zF
          clear hwG d0 d1 d8 d9 fK zKF x0 x1 q1 q2 zxF SF XF NF QF zF zw6 zE1 zPE
          obtain ⟨df, hdf⟩ : ∃ df, df = dfO pt := ⟨_, rfl⟩
          have q4 : (bits .and .u32 (pt : Int) 4 == 4) = df := by
            rw [and4 pt hpt, hdf, Bool.eq_iff_iff]; unfold dfO; simp; omega
          have HDF := Lib.hid hdf
          clear hdf
          go_upto_if 261 with fail
          go_cut [17] from 183 to 282 (fun s wx => ∃ dg : Nat, Hid (Pr P B w7.heap.size n0 (cs ++ [c2]).length w w.heap.size (w.heap.size + 1) cs.length k its pt cs3.length (wb.heap.size + 1) dg df wx ∧ PSt P B (some ⟨bb, off, none⟩) n c pos3 (cs3 ++ [pt]) wx))
          case first => as_aux_lemma =>
            cases df
            · go_wp2_with fail
              go_meet
              case rel => exact ⟨0, Lib.hid ⟨PG.out, SG.out⟩⟩
            · have x0 : wG.cell? ⟨wb.heap.size, 0, none⟩ = some (.iface 65 (ptr (wb.heap.size + 1))) := XG.out.cell 0
              have x1 : wG.cell? ⟨wb.heap.size, 1, none⟩ = some (.int .i32 (cs3.length : Int)) := XG.out.cell 1
              obtain ⟨f, hrw, -, -, -⟩ := PG.out.row
              have d4 : wG.cell? ⟨w7.heap.size, k * 11 + 4, none⟩ = some (f k 4) := hrw.cell (i := k) (j := 4) hlt (by omega)
              have d5 : wG.cell? ⟨w7.heap.size, k * 11 + 5, none⟩ = some (f k 5) := hrw.cell (i := k) (j := 5) hlt (by omega)
              have fK := hrw.frozen
              have zKG := hrw.lt
              have zxG : wb.heap.size < wG.heap.size := by omega
              have zxG1 : wb.heap.size < wG.heap.size + 1 := by omega
              have zKG1 : w7.heap.size < wG.heap.size + 1 := by omega
              have e8 : (pt : Int) / 8 = (m : Int) := by have := HM.out; omega
              have bG : B ≤ wG.heap.size := by omega
              clear hrw
              go_wp2_with fail
              go_meet
              case rel =>
                obtain ⟨cs0, hkb⟩ := PG.out.row.bk
                refine ⟨wG.heap.size + 1, Lib.hid ⟨PG.out.dflt2 hlt hPB hP0 (by omega) _ _ (by rw [HM.out]; rfl), ?_⟩⟩
                exact (((SG.out.set hkb (by decide) (by decide)).set hkb.setSelf (by decide) (by decide)).alloc _).alloc _
          as_aux_lemma =>
            obtain ⟨dg, HC⟩ := hcut
            obtain ⟨wh, rfl⟩ : ∃ x : World, x = wc := ⟨_, rfl⟩
            obtain ⟨g2, hrw, -, -, -⟩ := HC.out.1.row
            have zKh := hrw.lt
            have hKs : w.heap.size + 1 < w7.heap.size := s0'
            clear hrw g2
            go_wp2_with fail
            refine (IH.out P pos3 (cs3 ++ [pt]) wh (by have := H4.out.p0; omega) hn3 HC.out.2 (HS.out.below HC.out.1.bl) (by rw [List.length_append, List.length_singleton]; omega)).mono ?_
            rintro e w8 ⟨T, g, ws, pos4, rfl, y1, y2, y3, hst, hkeep, hbl, hconv⟩
            have hsz := hbl.size
            rw [List.length_append, List.length_singleton] at hconv
            obtain ⟨f, hrw, -, -, -⟩ := HC.out.1.row.move fun cs' hb => hkeep.bk hb (by omega) (by decide)
            have d2 : w8.cell? ⟨w7.heap.size, k * 11 + 2, none⟩ = some (f k 2) := hrw.cell (i := k) (j := 2) hlt (by omega)
            have d3 : w8.cell? ⟨w7.heap.size, k * 11 + 3, none⟩ = some (f k 3) := hrw.cell (i := k) (j := 3) hlt (by omega)
            have fK := hrw.frozen
            have zK8 := hrw.lt
            have PQ := Lib.hid (HC.out.1.step HDF.out hpt (by rw [HL3.out]; simp) hlt hPB hP0 (by omega) zKh hkeep hbl (by omega) (by omega) T g ws hconv.out)
            have ST : Hid (PSt P B (some ⟨bb, off, none⟩) n c pos4 (cs3 ++ [pt] ++ ws) w8) := hst
            have EL : (cs3 ++ [pt]).length = cs3.length + 1 := by simp
            have KB := Lib.hid (HC.out.1.row.move fun cs' hb => hkeep.bk hb (by omega) (by decide)).bk
            clear hst hkeep hbl hconv hrw
            rw [EL]
            obtain ⟨ll, hll⟩ : ∃ ll, ll = cs3.length + 1 := ⟨_, rfl⟩
            rw [← hll] at PQ ⊢
            have HLL := Lib.hid hll
            clear hll EL
            go_wp2_with fail
            go_roundw
            case rel =>
              refine ⟨k + 1, pos4, its ++ [⟨T, g, ll, wh.heap.size, w8.heap.size, ws, pt, cs3.length, wb.heap.size + 1, dg⟩], by omega, by go_num, Lib.hid ⟨PQ.out, ?_, by have := H4.out.p0; omega, by omega, ?_⟩⟩
              · obtain ⟨cs0, hkb⟩ := KB.out
                have h := (ST.out.set hkb (g := w7.heap.size) (o := k * 11 + 2) (v := .iface T (ptr g)) (by decide) (by decide)).set hkb.setSelf (o := k * 11 + 3) (v := .int .i32 (ll : Int)) (by decide) (by decide)
                rw [wsO_snoc, ← List.append_assoc, ← HCS.out]
                rw [List.append_assoc cs3] at h
                exact h
              · rw [wsO_snoc, List.length_append, List.length_cons]
                have h1 := H4.out.wl
                have h2 := H4.out.p0
                show (wsO its).length + (ws.length + 1) ≤ 2 * (k + 1) + 30 * (pos4 - p1)
                omega
            case measure => simp [intOf]; omega
      · as_aux_lemma =>
        have r0 : wr.cell? ⟨w.heap.size, 0, none⟩ = some .nilIface := H.out.q.rb.cell 0
        have r1 : wr.cell? ⟨w.heap.size, 1, none⟩ = some (.int .i32 0) := H.out.q.rb.cell 1
        have s0 : wr.cell? ⟨w.heap.size + 1, 0, none⟩ = some .nilIface := H.out.q.sb.cell 0
        have s1 : wr.cell? ⟨w.heap.size + 1, 1, none⟩ = some (.int .i32 (cs.length : Int)) := H.out.q.sb.cell 1
        have fr := H.out.q.rb.frozen
        have fs := H.out.q.sb.frozen
        have zr := H.out.q.rb.lt
        have zs := H.out.q.sb.lt
        have kn : k = n0 := by omega
        have KN := Lib.hid kn
        clear kn
        go_wp2_with fail
        refine bodyPost_ret (v := .agg #[.iface 71 (ptr wr.heap.size), .int .i32 (cs.length : Int)]) (by simp [results, Try.results5, go_sem, *]) rfl ⟨_, _, c2 :: wsO its, pos2, rfl, by have := H.out.p0; omega, by have := H.out.pn; omega, ?_, ?_, ?_, ?_, ?_⟩
        · have h1 := H.out.wl
          have h2 := H.out.p0
          have h3 := KN.out
          rw [List.length_cons]; omega
        · have pb : PB P B (some ⟨bb, off, none⟩) n c pos2 (cs ++ (c2 :: wsO its)) w.heap.size (w.heap.size + 1) wr := ⟨by have h := H.out.st; rw [List.append_assoc] at h; exact h, ⟨_, H.out.q.rb⟩, ⟨_, H.out.q.sb⟩⟩
          refine Lib.hid (show PB P B (some ⟨bb, off, none⟩) n c pos2 (cs ++ (c2 :: wsO its)) w.heap.size (w.heap.size + 1) _ from ?_).1
          repeat (with_reducible first | exact pb | refine PB.alloc ?_ _ | refine PB.set ?_ (by simp) _ _)
        · repeat (with_reducible first | exact H.out.q.keep | refine KeepT.alloc ?_ _ | refine KeepT.setNew ?_ (by omega) _ _)
        · repeat (with_reducible first | exact H.out.q.bl | refine Below.alloc ?_ (by first | (simp; done) | (simp <;> omega) | omega) _ | refine Below.setCell ?_ (by first | (simp; done) | (simp <;> omega) | omega) _)
        · refine Lib.hid ?_
          have h1 := H.out.wl
          have h2 := H.out.p0
          have h4 := H.out.pn
          have hK := H.out.q.row.bk
          have hKl : w7.heap.size < wr.heap.size := by obtain ⟨x, hx⟩ := hK; exact hx.lt
          have hKw : w.heap.size + 1 < w7.heap.size := s0'
          rw [EH.out]
          refine CA.out w.heap.size _ _ wr.heap.size cs.length n0 w7.heap.size b7 its n15 (by have := H.out.q.len; have := KN.out; omega) ?_ (by omega) (by simp) (by omega) (by simp; omega) ?_ ?_ (by omega)
          · repeat (with_reducible first | exact Bk.new' _ _ _ _ (by simp) | refine Bk.alloc ?_ _ | refine Bk.set ?_ (by omega))
          · refine H.out.q.row.move fun cs' hb => ?_
            repeat (with_reducible first | exact hb | refine Bk.alloc ?_ _ | refine Bk.set ?_ (by omega))
          · have hk1 := H.out.q.kids
            rw [List.length_append, List.length_singleton] at hk1
            refine (hk1.move (hi' := _) (by simp) ?_).mono (by omega)
            exact ((((agreeT_set wr (.inl (by omega))).trans (agreeT_set _ (.inl (by omega)))).trans (agreeT_set _ (.inl (by omega)))).trans (agreeT_alloc _ _))

end Go.Proofs.Ytokkndnicpgdkaa
