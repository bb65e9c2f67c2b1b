/-
  The parser where the stream has run out, and on a leaf; no statement of its own.
-/
import Derived.Test.YtokkndnicpgdkaaRows
import Derived.WalkKit
import Derived.ProofKit
import Derived.OpenShut
import Derived.Test.YtokkndnicpgdkaaSlW
import Derived.Test.YtokkndnicpgdkaaLbA
import Derived.Test.YtokkndnicpgdkaaLbR
import Derived.Test.YtokkndnicpgdkaaLbE
import Derived.Test.YtokkndnicpgdkaaCbW
import Derived.Test.YtokkndnicpgdkaaLbB
import Derived.Test.YtokkndnicpgdkaaLbJ
import Derived.WalkLawsBesides
import Derived.WalkSpells
import Derived.Below
import Derived.Lib.Hide
import Derived.Outline
import Derived.OwnWalk
import Derived.Laws.OwnMore
import Derived.Maps.AppendAt
import Derived.RegionTactic
import Derived.Deep.QuietTactic
import Derived.BigQuiet
import Derived.Deep.Cut
namespace Go.Proofs.Ytokkndnicpgdkaa
open Go.ChangeShapes Go.WideShapes Go.ChangeAt Go.RowKit

set_option linter.unusedVariables false

set_option maxRecDepth 100000 in
set_option maxHeartbeats 2000000 in
theorem parse_end (P B n c pos : Nat) (A : Option Addr) (cs : List Nat) (w : World) (hs : PSt P B A n c pos cs w) (hp : n ≤ pos) (hpb : pos ≤ 1000000) (hl : cs.length ≤ 1000000) :
    Calls Try.prog 5 #[ptr P] w (Psd P B A n c pos cs w) := by
  obtain ⟨va, vc, hP, hown, hB⟩ := hs
  have P0 : w.cell? ⟨P, 0, none⟩ = some (.slice A n c) := hP.cell 0
  have P1 : w.cell? ⟨P, 1, none⟩ = some (.int .i64 (pos : Int)) := hP.cell 1
  have P2 : w.cell? ⟨P, 2, none⟩ = some (.slice va cs.length vc) := hP.cell 2
  have zP := hP.lt
  have zP1 : P < w.heap.size + 1 := by omega
  have HP := Lib.hid hP
  have HO := Lib.hid hown
  have hnp : (n : Int) ≤ (pos : Int) := by omega
  clear hP hown
  obtain ⟨i0, hi0, hz0, hz1, hz2⟩ := info_three info_w
  go_enter Try.func5, Try.ntmps5
  go_wp2_with fail
  go_quiet (fail)
  obtain ⟨w3, hw3⟩ : ∃ w3, w3 = ((w.alloc (.cells #[.nilIface, .int .i32 0] 32)).alloc (.cells #[.nilIface, .int .i32 (cs.length : Int)] 32)).drewN nq := ⟨_, rfl⟩
  rw [← hw3]
  have z3 : w.heap.size + 1 < w3.heap.size := by rw [hw3]; show _ < ((w.alloc _).alloc _).heap.size; simp
  have HP3 : Hid (Bk w3 P 26 #[.slice A n c, .int .i64 (pos : Int), .slice va cs.length vc]) := by rw [hw3]; exact (HP.out.alloc _).alloc _
  have HO3 : Hid (w3.ownsRow B 48 1 (.slice va cs.length vc) cs.length (words cs)) := by rw [hw3]; exact (HO.out.alloc _).alloc _
  have R3 : Hid (Bk w3 w.heap.size 32 #[.nilIface, .int .i32 0]) := by rw [hw3]; exact (Bk.new _ _ _).alloc _
  have S3 : Hid (Bk w3 (w.heap.size + 1) 32 #[.nilIface, .int .i32 (cs.length : Int)]) := by rw [hw3]; exact Bk.new' _ _ _ _ (by simp)
  have K3 : Hid (KeepT P w w3) := by rw [hw3]; exact Lib.hid (((KeepT.refl P w).alloc _).alloc _)
  have L3 : Hid (Below B w w3) := by rw [hw3]; exact Lib.hid (below_drewN (((Below.refl B w).alloc (by omega) _).alloc (by simp; omega) _) _)
  clear hw3 P0 P1 P2 zP1 HP HO
  have own4 := HO3.out.alloc (.cells #[.int .u32 0] 48)
  have P0 : w3.cell? ⟨P, 0, none⟩ = some (.slice A n c) := HP3.out.cell 0
  have P1 : w3.cell? ⟨P, 1, none⟩ = some (.int .i64 (pos : Int)) := HP3.out.cell 1
  have P2 : w3.cell? ⟨P, 2, none⟩ = some (.slice va cs.length vc) := HP3.out.cell 2
  have zP4 := HP3.out.lt
  go_wp2_with (at_builtin; refine wpList_append_own_at _ rfl _ _ 22 rfl B 48 i0 (.int .u32 0) 1 4 Try.underlying22 hi0 hz0 hz1 hz2 rfl (by decide) _ _ _ rfl own4 ⟨w3.heap.size, 0, none⟩ 1 1 [.int .u32 0] rfl rfl ?c1 ?c2 ?c3 ?c4 ?c5 ?_)
  case c1 => intro j u hj; cases j with | zero => (simp at hj; subst hj; simp [Addr.add]) | succ j => simp at hj
  case c2 => intro u hu; simp at hu; subst hu; rfl
  case c3 => unfold maxLen; omega
  case c4 => omega
  case c5 => simp; omega
  intro v4 w4 hown4 hgrow4 _ _
  obtain ⟨b4, a4, k4, rfl, s4, kp4, bl4⟩ := canon_push (HP3.out.alloc _) own4 hB hown4 hgrow4
  have R4' := Lib.hid (Bk.grown (R3.out.alloc _) hgrow4 (own_ne own4 (R3.out.alloc _) (by decide)))
  have S4' := Lib.hid (Bk.grown (S3.out.alloc _) hgrow4 (own_ne own4 (S3.out.alloc _) (by decide)))
  have zw4 : w3.heap.size + 1 ≤ w4.heap.size := by have := hgrow4.size; simpa using this
  have SP4 := Lib.hid s4
  have KP4 := Lib.hid (K3.out.trans (((KeepT.refl P _).alloc _).trans kp4))
  have BL4 := Lib.hid (L3.out.trans (((Below.refl B _).alloc (by omega) _).trans bl4))
  have p24 : w4.cell? ⟨P, 2, none⟩ = some (.slice va cs.length vc) := b4.cell 2
  have fP4 := b4.frozen 2
  have zb4 := b4.lt
  clear own4 hown4 hgrow4 b4 s4 kp4 bl4 P0 P1 P2
  go_upto_region 5 with fail
  obtain ⟨w5, hw5⟩ : ∃ x : World, x = w4.setCell ⟨P, 2, none⟩ (.slice a4 (cs.length + 1) k4) := ⟨_, rfl⟩
  rw [← hw5]
  have ST4 := SP4
  have KT4 := KP4
  have BT4 := BL4
  rw [← hw5] at ST4 KT4 BT4
  have RR4 : Hid (Bk w5 w.heap.size 32 #[.nilIface, .int .i32 0]) := by rw [hw5]; exact R4'.out.set (by omega)
  have SS4 : Hid (Bk w5 (w.heap.size + 1) 32 #[.nilIface, .int .i32 (cs.length : Int)]) := by rw [hw5]; exact S4'.out.set (by omega)
  have zW4 : w4.heap.size ≤ w5.heap.size := by rw [hw5]; simp
  clear hw5 p24 fP4 zb4 SP4 KP4 BL4 R4' S4'
  have r0 : w5.cell? ⟨w.heap.size, 0, none⟩ = some .nilIface := RR4.out.cell 0
  have r1 : w5.cell? ⟨w.heap.size, 1, none⟩ = some (.int .i32 0) := RR4.out.cell 1
  have s0 : w5.cell? ⟨w.heap.size + 1, 0, none⟩ = some .nilIface := SS4.out.cell 0
  have s1 : w5.cell? ⟨w.heap.size + 1, 1, none⟩ = some (.int .i32 (cs.length : Int)) := SS4.out.cell 1
  have fr := RR4.out.frozen
  have fs := SS4.out.frozen
  have zr := RR4.out.lt
  have zs := SS4.out.lt
  go_wp2_with fail
  refine bodyPost_ret (v := .agg #[.iface 49 (ptr w5.heap.size), .int .i32 (cs.length : Int)]) (by simp [results, Try.results5, go_sem, *]) rfl ⟨_, _, [0], pos, rfl, by omega, by omega, by simp, ?_, ?_, ?_, ?_⟩
  · have pb : PB P B A n c pos (cs ++ [0]) w.heap.size (w.heap.size + 1) w5 := ⟨ST4.out, ⟨_, RR4.out⟩, ⟨_, SS4.out⟩⟩
    refine Lib.hid (show PB P B A n c pos (cs ++ [0]) w.heap.size (w.heap.size + 1) _ from ?_).1
    repeat (with_reducible first | exact pb | refine PB.alloc ?_ _ | refine PB.set ?_ (by simp) _ _)
  · repeat (with_reducible first | exact KT4.out | refine KeepT.alloc ?_ _ | refine KeepT.setNew ?_ (by omega) _ _)
  · repeat (with_reducible first | exact BT4.out | refine Below.alloc ?_ (by first | (simp; done) | (simp <;> omega) | omega) _ | refine Below.setCell ?_ (by first | (simp; done) | (simp <;> omega) | omega) _)
  · exact Lib.hid (conv_missing _ _ _ _ _)
set_option maxRecDepth 100000 in
set_option maxHeartbeats 2000000 in
theorem parse_missing (P B n c pos : Nat) (A : Option Addr) (toks cs : List Nat) (w : World) (hs : PSt P B A n c pos cs w) (hp : pos < n) (ht : Sl w B A n (words toks)) (hz : ∀ t ∈ toks, t < 4294967296) (hk : toks.getD pos 0 % 4 = 0) (hpb : n ≤ 100000) (hl : cs.length ≤ 1000000) :
    Calls Try.prog 5 #[ptr P] w (Psd P B A n c pos cs w) := by
  obtain ⟨va, vc, hP, hown, hB⟩ := hs
  obtain ⟨bb, off, u, hA, hbb, hu, hx⟩ := ht.at_ (k := pos) hp
  obtain ⟨t, ht0, rfl⟩ : ∃ t : Nat, toks[pos]? = some t ∧ Value.int .u32 (t : Int) = u := by simpa [words] using hu
  have hgd : toks.getD pos 0 = t := by rw [List.getD_eq_getElem?_getD, ht0]; rfl
  rw [hgd] at hk
  have tb : t < 4294967296 := hz t (List.mem_of_getElem? ht0)
  have hk3 : bits .and .u32 (t : Int) 3 = 0 := by rw [and3 t tb, hk]; rfl
  have hnp : ¬ (n : Int) ≤ (pos : Int) := by omega
  have hbP : bb ≠ P := by omega
  obtain ⟨p1, hp1⟩ : ∃ p1, p1 = pos + 1 := ⟨_, rfl⟩
  have e1 : ((pos : Int) + 1) = (p1 : Int) := by omega
  have E1 := Lib.hid e1
  have HGD := Lib.hid hgd
  have HK := Lib.hid hk
  subst hA
  clear ht hu ht0 hgd hk e1
  have P0 : w.cell? ⟨P, 0, none⟩ = some (.slice (some ⟨bb, off, none⟩) n c) := hP.cell 0
  have P1 : w.cell? ⟨P, 1, none⟩ = some (.int .i64 (pos : Int)) := hP.cell 1
  have P2 : w.cell? ⟨P, 2, none⟩ = some (.slice va cs.length vc) := hP.cell 2
  have zP := hP.lt
  have zP1 : P < w.heap.size + 1 := by omega
  have HP := Lib.hid hP
  have HXX := Lib.hid hx
  have hbw : bb < w.heap.size := by omega
  clear hx
  have HO := Lib.hid hown
  clear hP hown
  obtain ⟨i0, hi0, hz0, hz1, hz2⟩ := info_three info_w
  go_enter Try.func5, Try.ntmps5
  go_wp2_with fail
  go_quiet (fail)
  obtain ⟨w3, hw3⟩ : ∃ w3, w3 = ((w.alloc (.cells #[.nilIface, .int .i32 0] 32)).alloc (.cells #[.nilIface, .int .i32 (cs.length : Int)] 32)).drewN nq := ⟨_, rfl⟩
  rw [← hw3]
  have z3 : w.heap.size + 1 < w3.heap.size := by rw [hw3]; show _ < ((w.alloc _).alloc _).heap.size; simp
  have HP3 : Hid (Bk w3 P 26 #[.slice (some ⟨bb, off, none⟩) n c, .int .i64 (pos : Int), .slice va cs.length vc]) := by rw [hw3]; exact (HP.out.alloc _).alloc _
  have HO3 : Hid (w3.ownsRow B 48 1 (.slice va cs.length vc) cs.length (words cs)) := by rw [hw3]; exact (HO.out.alloc _).alloc _
  have R3 : Hid (Bk w3 w.heap.size 32 #[.nilIface, .int .i32 0]) := by rw [hw3]; exact (Bk.new _ _ _).alloc _
  have S3 : Hid (Bk w3 (w.heap.size + 1) 32 #[.nilIface, .int .i32 (cs.length : Int)]) := by rw [hw3]; exact Bk.new' _ _ _ _ (by simp)
  have K3 : Hid (KeepT P w w3) := by rw [hw3]; exact Lib.hid (((KeepT.refl P w).alloc _).alloc _)
  have L3 : Hid (Below B w w3) := by rw [hw3]; exact Lib.hid (below_drewN (((Below.refl B w).alloc (by omega) _).alloc (by simp; omega) _) _)
  have HX3 : Hid (w3.cell? ⟨bb, off + pos, none⟩ = some (.int .u32 (t : Int))) := by rw [hw3]; exact Lib.hid (((Below.refl w.heap.size w).alloc (Nat.le_refl _) _).alloc (by simp) _ |>.cell (p := ⟨bb, off + pos, none⟩) hbw |>.trans HXX.out)
  clear hw3 P0 P1 P2 zP1 HP HO
  have X3 : Hid (w3.cell? ⟨bb, off + pos, none⟩ = some (.int .u32 (t : Int))) := HX3
  have x3 := X3.out
  have P0 : w3.cell? ⟨P, 0, none⟩ = some (.slice (some ⟨bb, off, none⟩) n c) := HP3.out.cell 0
  have P1 : w3.cell? ⟨P, 1, none⟩ = some (.int .i64 (pos : Int)) := HP3.out.cell 1
  have fP := HP3.out.frozen 1
  have zP3 := HP3.out.lt
  have i1 : (0 : Int) ≤ (pos : Int) := by omega
  have i2 : (pos : Int) < (n : Int) := by omega
  have i3 : pos < n := hp
  go_wp2_with fail
  go_quiet (fail)
  obtain ⟨wq, hwq⟩ : ∃ x : World, x = w3.drewN nq := ⟨_, rfl⟩
  rw [← hwq]
  have Q0 : wq.cell? ⟨P, 1, none⟩ = some (.int .i64 (pos : Int)) := by rw [hwq]; exact P1
  have Qf : wq.frozen? ⟨P, 1, none⟩ = false := by rw [hwq]; exact fP
  have Qz : P < wq.heap.size := by rw [hwq]; exact zP3
  have WQ := Lib.hid hwq
  clear x3 P0 P1 fP zP3 hwq i1 i2
  go_upto_region 9 with fail
  obtain ⟨w4, hw4⟩ : ∃ x : World, x = wq.setCell ⟨P, 1, none⟩ (.int .i64 ((pos : Int) + 1)) := ⟨_, rfl⟩
  rw [← hw4]
  have hw5 : w4 = (w3.drewN nq).setCell ⟨P, 1, none⟩ (.int .i64 (p1 : Int)) := by rw [hw4, WQ.out, E1.out]
  have HP4 : Hid (Bk w4 P 26 #[.slice (some ⟨bb, off, none⟩) n c, .int .i64 (p1 : Int), .slice va cs.length vc]) := by rw [hw5]; exact Bk.setSelf (w := w3.drewN nq) (o := 1) (v := .int .i64 (p1 : Int)) HP3.out
  have HO4 : Hid (w4.ownsRow B 48 1 (.slice va cs.length vc) cs.length (words cs)) := by rw [hw5]; exact Lib.hid (own_set (w := w3.drewN nq) HO3.out (own_ne HO3.out HP3.out (by decide)))
  have R4 : Hid (Bk w4 w.heap.size 32 #[.nilIface, .int .i32 0]) := by rw [hw5]; exact Bk.set (w := w3.drewN nq) R3.out (by omega)
  have S4 : Hid (Bk w4 (w.heap.size + 1) 32 #[.nilIface, .int .i32 (cs.length : Int)]) := by rw [hw5]; exact Bk.set (w := w3.drewN nq) S3.out (by omega)
  have K4 : Hid (KeepT P w w4) := by rw [hw5]; exact Lib.hid ((K3.out.drewN _).set _ _)
  have L4 : Hid (Below B w w4) := by rw [hw5]; exact Lib.hid ((below_drewN L3.out _).setCell hB _)
  clear hw4 hw5 Q0 Qf Qz WQ HP3 HO3 R3 S3 K3 L3 X3
  have own6 := HO4.out.alloc (.cells #[.int .u32 0] 48)
  have P0 : w4.cell? ⟨P, 0, none⟩ = some (.slice (some ⟨bb, off, none⟩) n c) := HP4.out.cell 0
  have P1 : w4.cell? ⟨P, 1, none⟩ = some (.int .i64 (p1 : Int)) := HP4.out.cell 1
  have P2 : w4.cell? ⟨P, 2, none⟩ = some (.slice va cs.length vc) := HP4.out.cell 2
  have zP6 := HP4.out.lt
  go_wp2_with (at_builtin; refine wpList_append_own_at _ rfl _ _ 22 rfl B 48 i0 (.int .u32 0) 1 4 Try.underlying22 hi0 hz0 hz1 hz2 rfl (by decide) _ _ _ rfl own6 ⟨w4.heap.size, 0, none⟩ 1 1 [.int .u32 0] rfl rfl ?c1 ?c2 ?c3 ?c4 ?c5 ?_)
  case c1 => intro j u hj; cases j with | zero => (simp at hj; subst hj; simp [Addr.add]) | succ j => simp at hj
  case c2 => intro u hu; simp at hu; subst hu; rfl
  case c3 => unfold maxLen; omega
  case c4 => omega
  case c5 => simp; omega
  intro v6 w6 hown6 hgrow6 _ _
  obtain ⟨b6, a6, k6, rfl, s6, kp6, bl6⟩ := canon_push (HP4.out.alloc _) own6 hB hown6 hgrow6
  have R6' := Lib.hid (Bk.grown (R4.out.alloc _) hgrow6 (own_ne own6 (R4.out.alloc _) (by decide)))
  have S6' := Lib.hid (Bk.grown (S4.out.alloc _) hgrow6 (own_ne own6 (S4.out.alloc _) (by decide)))
  have zw6 : w4.heap.size + 1 ≤ w6.heap.size := by have := hgrow6.size; simpa using this
  have SP6 := Lib.hid s6
  have KP6 := Lib.hid (K4.out.trans (((KeepT.refl P _).alloc _).trans kp6))
  have BL6 := Lib.hid (L4.out.trans (((Below.refl B _).alloc (by omega) _).trans bl6))
  have p26 : w6.cell? ⟨P, 2, none⟩ = some (.slice va cs.length vc) := b6.cell 2
  have fP6 := b6.frozen 2
  have zb6 := b6.lt
  clear own6 hown6 hgrow6 b6 s6 kp6 bl6 P0 P1 P2
  go_upto_region 12 with fail
  obtain ⟨w7, hw7⟩ : ∃ x : World, x = w6.setCell ⟨P, 2, none⟩ (.slice a6 (cs.length + 1) k6) := ⟨_, rfl⟩
  rw [← hw7]
  have ST6 := SP6
  have KT6 := KP6
  have BT6 := BL6
  rw [← hw7] at ST6 KT6 BT6
  have RR6 : Hid (Bk w7 w.heap.size 32 #[.nilIface, .int .i32 0]) := by rw [hw7]; exact R6'.out.set (by omega)
  have SS6 : Hid (Bk w7 (w.heap.size + 1) 32 #[.nilIface, .int .i32 (cs.length : Int)]) := by rw [hw7]; exact S6'.out.set (by omega)
  have zW6 : w6.heap.size ≤ w7.heap.size := by rw [hw7]; simp
  clear hw7 p26 fP6 zb6 SP6 KP6 BL6 R6' S6'
  have r0 : w7.cell? ⟨w.heap.size, 0, none⟩ = some .nilIface := RR6.out.cell 0
  have r1 : w7.cell? ⟨w.heap.size, 1, none⟩ = some (.int .i32 0) := RR6.out.cell 1
  have s0 : w7.cell? ⟨w.heap.size + 1, 0, none⟩ = some .nilIface := SS6.out.cell 0
  have s1 : w7.cell? ⟨w.heap.size + 1, 1, none⟩ = some (.int .i32 (cs.length : Int)) := SS6.out.cell 1
  have fr := RR6.out.frozen
  have fs := SS6.out.frozen
  have zr := RR6.out.lt
  have zs := SS6.out.lt
  go_wp2_with fail
  refine bodyPost_ret (v := .agg #[.iface 49 (ptr w7.heap.size), .int .i32 (cs.length : Int)]) (by simp [results, Try.results5, go_sem, *]) rfl ⟨_, _, [0], p1, rfl, by omega, by omega, by simp, ?_, ?_, ?_, ?_⟩
  · have pb : PB P B (some ⟨bb, off, none⟩) n c p1 (cs ++ [0]) w.heap.size (w.heap.size + 1) w7 := ⟨ST6.out, ⟨_, RR6.out⟩, ⟨_, SS6.out⟩⟩
    refine Lib.hid (show PB P B (some ⟨bb, off, none⟩) n c p1 (cs ++ [0]) w.heap.size (w.heap.size + 1) _ from ?_).1
    repeat (with_reducible first | exact pb | refine PB.alloc ?_ _ | refine PB.set ?_ (by simp) _ _)
  · repeat (with_reducible first | exact KT6.out | refine KeepT.alloc ?_ _ | refine KeepT.setNew ?_ (by omega) _ _)
  · repeat (with_reducible first | exact BT6.out | refine Below.alloc ?_ (by first | (simp; done) | (simp <;> omega) | omega) _ | refine Below.setCell ?_ (by first | (simp; done) | (simp <;> omega) | omega) _)
  · exact Lib.hid (conv_missing _ _ _ _ _)
set_option maxRecDepth 100000 in
set_option maxHeartbeats 2000000 in
theorem parse_ident (P B n c pos : Nat) (A : Option Addr) (toks cs : List Nat) (w : World) (hs : PSt P B A n c pos cs w) (hp : pos < n) (ht : Sl w B A n (words toks)) (hz : ∀ t ∈ toks, t < 4294967296) (hk : toks.getD pos 0 % 4 = 1) (hpb : n ≤ 100000) (hl : cs.length ≤ 1000000) :
    Calls Try.prog 5 #[ptr P] w (Psd P B A n c pos cs w) := by
  obtain ⟨va, vc, hP, hown, hB⟩ := hs
  obtain ⟨bb, off, u, hA, hbb, hu, hx⟩ := ht.at_ (k := pos) hp
  obtain ⟨t, ht0, rfl⟩ : ∃ t : Nat, toks[pos]? = some t ∧ Value.int .u32 (t : Int) = u := by simpa [words] using hu
  have hgd : toks.getD pos 0 = t := by rw [List.getD_eq_getElem?_getD, ht0]; rfl
  rw [hgd] at hk
  have tb : t < 4294967296 := hz t (List.mem_of_getElem? ht0)
  have hk3 : bits .and .u32 (t : Int) 3 = 1 := by rw [and3 t tb, hk]; rfl
  have hnp : ¬ (n : Int) ≤ (pos : Int) := by omega
  have hbP : bb ≠ P := by omega
  obtain ⟨p1, hp1⟩ : ∃ p1, p1 = pos + 1 := ⟨_, rfl⟩
  have e1 : ((pos : Int) + 1) = (p1 : Int) := by omega
  have E1 := Lib.hid e1
  have HGD := Lib.hid hgd
  have HK := Lib.hid hk
  subst hA
  clear ht hu ht0 hgd hk e1
  have P0 : w.cell? ⟨P, 0, none⟩ = some (.slice (some ⟨bb, off, none⟩) n c) := hP.cell 0
  have P1 : w.cell? ⟨P, 1, none⟩ = some (.int .i64 (pos : Int)) := hP.cell 1
  have P2 : w.cell? ⟨P, 2, none⟩ = some (.slice va cs.length vc) := hP.cell 2
  have zP := hP.lt
  have zP1 : P < w.heap.size + 1 := by omega
  have HP := Lib.hid hP
  have HXX := Lib.hid hx
  have hbw : bb < w.heap.size := by omega
  clear hx
  have HO := Lib.hid hown
  clear hP hown
  obtain ⟨i0, hi0, hz0, hz1, hz2⟩ := info_three info_w
  go_enter Try.func5, Try.ntmps5
  go_wp2_with fail
  go_quiet (fail)
  obtain ⟨w3, hw3⟩ : ∃ w3, w3 = ((w.alloc (.cells #[.nilIface, .int .i32 0] 32)).alloc (.cells #[.nilIface, .int .i32 (cs.length : Int)] 32)).drewN nq := ⟨_, rfl⟩
  rw [← hw3]
  have z3 : w.heap.size + 1 < w3.heap.size := by rw [hw3]; show _ < ((w.alloc _).alloc _).heap.size; simp
  have HP3 : Hid (Bk w3 P 26 #[.slice (some ⟨bb, off, none⟩) n c, .int .i64 (pos : Int), .slice va cs.length vc]) := by rw [hw3]; exact (HP.out.alloc _).alloc _
  have HO3 : Hid (w3.ownsRow B 48 1 (.slice va cs.length vc) cs.length (words cs)) := by rw [hw3]; exact (HO.out.alloc _).alloc _
  have R3 : Hid (Bk w3 w.heap.size 32 #[.nilIface, .int .i32 0]) := by rw [hw3]; exact (Bk.new _ _ _).alloc _
  have S3 : Hid (Bk w3 (w.heap.size + 1) 32 #[.nilIface, .int .i32 (cs.length : Int)]) := by rw [hw3]; exact Bk.new' _ _ _ _ (by simp)
  have K3 : Hid (KeepT P w w3) := by rw [hw3]; exact Lib.hid (((KeepT.refl P w).alloc _).alloc _)
  have L3 : Hid (Below B w w3) := by rw [hw3]; exact Lib.hid (below_drewN (((Below.refl B w).alloc (by omega) _).alloc (by simp; omega) _) _)
  have HX3 : Hid (w3.cell? ⟨bb, off + pos, none⟩ = some (.int .u32 (t : Int))) := by rw [hw3]; exact Lib.hid (((Below.refl w.heap.size w).alloc (Nat.le_refl _) _).alloc (by simp) _ |>.cell (p := ⟨bb, off + pos, none⟩) hbw |>.trans HXX.out)
  clear hw3 P0 P1 P2 zP1 HP HO
  have X3 : Hid (w3.cell? ⟨bb, off + pos, none⟩ = some (.int .u32 (t : Int))) := HX3
  have x3 := X3.out
  have P0 : w3.cell? ⟨P, 0, none⟩ = some (.slice (some ⟨bb, off, none⟩) n c) := HP3.out.cell 0
  have P1 : w3.cell? ⟨P, 1, none⟩ = some (.int .i64 (pos : Int)) := HP3.out.cell 1
  have fP := HP3.out.frozen 1
  have zP3 := HP3.out.lt
  have i1 : (0 : Int) ≤ (pos : Int) := by omega
  have i2 : (pos : Int) < (n : Int) := by omega
  have i3 : pos < n := hp
  go_wp2_with fail
  go_quiet (fail)
  obtain ⟨wq, hwq⟩ : ∃ x : World, x = w3.drewN nq := ⟨_, rfl⟩
  rw [← hwq]
  have Q0 : wq.cell? ⟨P, 1, none⟩ = some (.int .i64 (pos : Int)) := by rw [hwq]; exact P1
  have Qf : wq.frozen? ⟨P, 1, none⟩ = false := by rw [hwq]; exact fP
  have Qz : P < wq.heap.size := by rw [hwq]; exact zP3
  have WQ := Lib.hid hwq
  clear x3 P0 P1 fP zP3 hwq i1 i2
  go_upto_region 9 with fail
  obtain ⟨w4, hw4⟩ : ∃ x : World, x = wq.setCell ⟨P, 1, none⟩ (.int .i64 ((pos : Int) + 1)) := ⟨_, rfl⟩
  rw [← hw4]
  have hw5 : w4 = (w3.drewN nq).setCell ⟨P, 1, none⟩ (.int .i64 (p1 : Int)) := by rw [hw4, WQ.out, E1.out]
  have HP4 : Hid (Bk w4 P 26 #[.slice (some ⟨bb, off, none⟩) n c, .int .i64 (p1 : Int), .slice va cs.length vc]) := by rw [hw5]; exact Bk.setSelf (w := w3.drewN nq) (o := 1) (v := .int .i64 (p1 : Int)) HP3.out
  have HO4 : Hid (w4.ownsRow B 48 1 (.slice va cs.length vc) cs.length (words cs)) := by rw [hw5]; exact Lib.hid (own_set (w := w3.drewN nq) HO3.out (own_ne HO3.out HP3.out (by decide)))
  have R4 : Hid (Bk w4 w.heap.size 32 #[.nilIface, .int .i32 0]) := by rw [hw5]; exact Bk.set (w := w3.drewN nq) R3.out (by omega)
  have S4 : Hid (Bk w4 (w.heap.size + 1) 32 #[.nilIface, .int .i32 (cs.length : Int)]) := by rw [hw5]; exact Bk.set (w := w3.drewN nq) S3.out (by omega)
  have K4 : Hid (KeepT P w w4) := by rw [hw5]; exact Lib.hid ((K3.out.drewN _).set _ _)
  have L4 : Hid (Below B w w4) := by rw [hw5]; exact Lib.hid ((below_drewN L3.out _).setCell hB _)
  clear hw4 hw5 Q0 Qf Qz WQ HP3 HO3 R3 S3 K3 L3 X3
  have own6 := HO4.out.alloc (.cells #[.int .u32 (t : Int)] 48)
  have P0 : w4.cell? ⟨P, 0, none⟩ = some (.slice (some ⟨bb, off, none⟩) n c) := HP4.out.cell 0
  have P1 : w4.cell? ⟨P, 1, none⟩ = some (.int .i64 (p1 : Int)) := HP4.out.cell 1
  have P2 : w4.cell? ⟨P, 2, none⟩ = some (.slice va cs.length vc) := HP4.out.cell 2
  have zP6 := HP4.out.lt
  go_wp2_with (at_builtin; refine wpList_append_own_at _ rfl _ _ 22 rfl B 48 i0 (.int .u32 0) 1 4 Try.underlying22 hi0 hz0 hz1 hz2 rfl (by decide) _ _ _ rfl own6 ⟨w4.heap.size, 0, none⟩ 1 1 [.int .u32 (t : Int)] rfl rfl ?c1 ?c2 ?c3 ?c4 ?c5 ?_)
  case c1 => intro j u hj; cases j with | zero => (simp at hj; subst hj; simp [Addr.add]) | succ j => simp at hj
  case c2 => intro u hu; simp at hu; subst hu; rfl
  case c3 => unfold maxLen; omega
  case c4 => omega
  case c5 => simp; omega
  intro v6 w6 hown6 hgrow6 _ _
  obtain ⟨b6, a6, k6, rfl, s6, kp6, bl6⟩ := canon_push (HP4.out.alloc _) own6 hB hown6 hgrow6
  have R6' := Lib.hid (Bk.grown (R4.out.alloc _) hgrow6 (own_ne own6 (R4.out.alloc _) (by decide)))
  have S6' := Lib.hid (Bk.grown (S4.out.alloc _) hgrow6 (own_ne own6 (S4.out.alloc _) (by decide)))
  have zw6 : w4.heap.size + 1 ≤ w6.heap.size := by have := hgrow6.size; simpa using this
  have SP6 := Lib.hid s6
  have KP6 := Lib.hid (K4.out.trans (((KeepT.refl P _).alloc _).trans kp6))
  have BL6 := Lib.hid (L4.out.trans (((Below.refl B _).alloc (by omega) _).trans bl6))
  have p26 : w6.cell? ⟨P, 2, none⟩ = some (.slice va cs.length vc) := b6.cell 2
  have fP6 := b6.frozen 2
  have zb6 := b6.lt
  clear own6 hown6 hgrow6 b6 s6 kp6 bl6 P0 P1 P2
  go_upto_region 16 with fail
  obtain ⟨w7, hw7⟩ : ∃ x : World, x = w6.setCell ⟨P, 2, none⟩ (.slice a6 (cs.length + 1) k6) := ⟨_, rfl⟩
  rw [← hw7]
  have ST6 := SP6
  have KT6 := KP6
  have BT6 := BL6
  rw [← hw7] at ST6 KT6 BT6
  have RR6 : Hid (Bk w7 w.heap.size 32 #[.nilIface, .int .i32 0]) := by rw [hw7]; exact R6'.out.set (by omega)
  have SS6 : Hid (Bk w7 (w.heap.size + 1) 32 #[.nilIface, .int .i32 (cs.length : Int)]) := by rw [hw7]; exact S6'.out.set (by omega)
  have zW6 : w6.heap.size ≤ w7.heap.size := by rw [hw7]; simp
  clear hw7 p26 fP6 zb6 SP6 KP6 BL6 R6' S6'
  have r0 : w7.cell? ⟨w.heap.size, 0, none⟩ = some .nilIface := RR6.out.cell 0
  have r1 : w7.cell? ⟨w.heap.size, 1, none⟩ = some (.int .i32 0) := RR6.out.cell 1
  have s0 : w7.cell? ⟨w.heap.size + 1, 0, none⟩ = some .nilIface := SS6.out.cell 0
  have s1 : w7.cell? ⟨w.heap.size + 1, 1, none⟩ = some (.int .i32 (cs.length : Int)) := SS6.out.cell 1
  have fr := RR6.out.frozen
  have fs := SS6.out.frozen
  have zr := RR6.out.lt
  have zs := SS6.out.lt
  go_wp2_with fail
  refine bodyPost_ret (v := .agg #[.iface 52 (ptr w7.heap.size), .int .i32 (cs.length : Int)]) (by simp [results, Try.results5, go_sem, *]) rfl ⟨_, _, [t], p1, rfl, by omega, by omega, by simp, ?_, ?_, ?_, ?_⟩
  · have pb : PB P B (some ⟨bb, off, none⟩) n c p1 (cs ++ [t]) w.heap.size (w.heap.size + 1) w7 := ⟨ST6.out, ⟨_, RR6.out⟩, ⟨_, SS6.out⟩⟩
    refine Lib.hid (show PB P B (some ⟨bb, off, none⟩) n c p1 (cs ++ [t]) w.heap.size (w.heap.size + 1) _ from ?_).1
    repeat (with_reducible first | exact pb | refine PB.alloc ?_ _ | refine PB.set ?_ (by simp) _ _)
  · repeat (with_reducible first | exact KT6.out | refine KeepT.alloc ?_ _ | refine KeepT.setNew ?_ (by omega) _ _)
  · repeat (with_reducible first | exact BT6.out | refine Below.alloc ?_ (by first | (simp; done) | (simp <;> omega) | omega) _ | refine Below.setCell ?_ (by first | (simp; done) | (simp <;> omega) | omega) _)
  · refine Lib.hid ?_
    have e : [t] = [4 * (t / 4) + 1] := by rw [show 4 * (t / 4) + 1 = t by have := HK.out; omega]
    rw [e]
    refine conv_ident _ _ _ _ _ (t / 4) (by omega) ?_ (by omega) (by simp)
    rw [show ((t / 4 : Nat) : Int) = (t : Int) / 4 by omega]
    repeat (with_reducible first | exact Bk.new' _ _ _ _ (by simp) | refine Bk.alloc ?_ _ | refine Bk.set ?_ (by omega))

end Go.Proofs.Ytokkndnicpgdkaa
