/-
  zzBuildChain, walked; no statement of its own.
-/
import Derived.Test.YtbmmmgccmkompadRows
import Derived.WalkKit
import Derived.ProofKit
import Derived.OpenShut
import Derived.Test.YtbmmmgccmkompadSlW
import Derived.Test.YtbmmmgccmkompadScA
import Derived.Test.YtbmmmgccmkompadScB
import Derived.Test.YtbmmmgccmkompadScC
import Derived.Test.YtbmmmgccmkompadScD
import Derived.WalkLawsBesides
import Derived.WalkSpells
import Derived.Below
import Derived.Lib.Hide
import Derived.Outline
import Derived.Laws.MakeOwn
import Derived.LoopTactic
import Derived.RegionTactic
import Derived.Deep.RegionHeld3
import Derived.Deep.Cut
namespace Go.Proofs.Ytbmmmgccmkompad
open Go.ChangeShapes Go.WideShapes Go.ChangeAt Go.RowKit

set_option linter.unusedVariables false

set_option maxRecDepth 100000 in
set_option maxHeartbeats 4000000 in
theorem build_any (ls : Bool) (A : Option Addr) (n c : Nat) (rs : List Int) (w : World) (hs : Sl w w.heap.size A n (rs.map (Value.int .i8))) (hn : n ≤ 16384) :
    Calls Try.prog 5 #[.bool ls, .slice A n c] w (Built ls rs n w) := by
  have HS := Lib.hid hs
  clear hs
  obtain ⟨i0, hi, hz0, hz1, hz2⟩ := info_three info_x
  have hmk := fun w : World => run_make (P := Try.prog) w 24 34 i0 (.agg #[.nilIface, .int .i32 0]) Try.underlying24 hi hz0 .i64 .i64 (n + 1) (n + 1) (by omega) (by omega) (by rw [hz2]; omega) (by omega)
  simp only [hz1] at hmk
  obtain ⟨i1, gi, gz0, gz1, gz2⟩ := info_three info_ip
  have hml := fun w : World => run_make (P := Try.prog) w 25 44 i1 (.pointer none) Try.underlying25 gi gz0 .i64 .i64 (n + 1) (n + 1) (by omega) (by omega) (by rw [gz2]; omega) (by omega)
  simp only [gz1, Nat.mul_one] at hml
  have wr1 : IntKind.i64.wrap ((n : Int) + 1) = (n : Int) + 1 := IntWalk.i64_in _ (by omega)
  have tn1 : ((n : Int) + 1).toNat = n + 1 := by omega
  go_enter Try.func5, Try.ntmps5
  go_upto_region 2 with fail
  go_cut [6] from 14 (fun c wx => Start n w c wx)
  case first =>
    go_region_held3 (fun _ => True) (trivial) (fail)
    all_goals
      go_wp2_with fail
      go_meet
      case rel =>
        first
        | (refine ⟨w.heap.size + 1, w.heap.size + 1 + 1, w.heap.size + 1 + 1 + 1, rfl, by omega, by omega, by omega, by omega, by omega, by omega, ?_, ?_, ?_, ?_, ?_⟩; all_goals first | (refine Bk.drew ?_; (repeat (first | exact Bk.new' _ _ _ _ (by simp) | refine Bk.alloc ?_ _)); done) | (refine Below.drew ?_; (repeat (first | exact Below.refl _ _ | refine Below.alloc ?_ (by simp <;> omega) _)); done))
        | (refine ⟨w.heap.size + 1, w.heap.size + 1 + 1 + 1, w.heap.size + 1 + 1, rfl, by omega, by omega, by omega, by omega, by omega, by omega, ?_, ?_, ?_, ?_, ?_⟩; all_goals first | (refine Bk.drew ?_; (repeat (first | exact Bk.new' _ _ _ _ (by simp) | refine Bk.alloc ?_ _)); done) | (refine Below.drew ?_; (repeat (first | exact Below.refl _ _ | refine Below.alloc ?_ (by simp <;> omega) _)); done))
        | (refine ⟨w.heap.size + 1 + 1, w.heap.size + 1, w.heap.size + 1 + 1 + 1, rfl, by omega, by omega, by omega, by omega, by omega, by omega, ?_, ?_, ?_, ?_, ?_⟩; all_goals first | (refine Bk.drew ?_; (repeat (first | exact Bk.new' _ _ _ _ (by simp) | refine Bk.alloc ?_ _)); done) | (refine Below.drew ?_; (repeat (first | exact Below.refl _ _ | refine Below.alloc ?_ (by simp <;> omega) _)); done))
        | (refine ⟨w.heap.size + 1 + 1, w.heap.size + 1 + 1 + 1, w.heap.size + 1, rfl, by omega, by omega, by omega, by omega, by omega, by omega, ?_, ?_, ?_, ?_, ?_⟩; all_goals first | (refine Bk.drew ?_; (repeat (first | exact Bk.new' _ _ _ _ (by simp) | refine Bk.alloc ?_ _)); done) | (refine Below.drew ?_; (repeat (first | exact Below.refl _ _ | refine Below.alloc ?_ (by simp <;> omega) _)); done))
        | (refine ⟨w.heap.size + 1 + 1 + 1, w.heap.size + 1, w.heap.size + 1 + 1, rfl, by omega, by omega, by omega, by omega, by omega, by omega, ?_, ?_, ?_, ?_, ?_⟩; all_goals first | (refine Bk.drew ?_; (repeat (first | exact Bk.new' _ _ _ _ (by simp) | refine Bk.alloc ?_ _)); done) | (refine Below.drew ?_; (repeat (first | exact Below.refl _ _ | refine Below.alloc ?_ (by simp <;> omega) _)); done))
        | (refine ⟨w.heap.size + 1 + 1 + 1, w.heap.size + 1 + 1, w.heap.size + 1, rfl, by omega, by omega, by omega, by omega, by omega, by omega, ?_, ?_, ?_, ?_, ?_⟩; all_goals first | (refine Bk.drew ?_; (repeat (first | exact Bk.new' _ _ _ _ (by simp) | refine Bk.alloc ?_ _)); done) | (refine Below.drew ?_; (repeat (first | exact Below.refl _ _ | refine Below.alloc ?_ (by simp <;> omega) _)); done))
  obtain ⟨N, I, C, rfl, hN, hI, hC, n1, n2, n3, b0, bN, bI, bC, bl⟩ := hcut
  have zN := bN.lt
  have zI := bI.lt
  have zC := bC.lt
  have z0 := b0.lt
  have zN1 : N < wc.heap.size + 1 := by omega
  have zN2 : N < wc.heap.size + 1 + 1 := by omega
  have zI1 : I < wc.heap.size + 1 := by omega
  have zI2 : I < wc.heap.size + 1 + 1 := by omega
  have zC1 : C < wc.heap.size + 1 := by omega
  have zC2 : C < wc.heap.size + 1 + 1 := by omega
  have sN : (madeCells #[Value.nilIface, .int .i32 0] ((n + 1) * 2)).size = 2 * (n + 1) := by simp [madeCells]; omega
  have sI : (madeCells #[Value.pointer none] (n + 1)).size = n + 1 := by simp [madeCells]
  have N0 : wc.cell? ⟨N, 0, none⟩ = some .nilIface := by rw [bN.cell]; simp [madeCells]
  have N1 : wc.cell? ⟨N, 1, none⟩ = some (.int .i32 0) := by rw [bN.cell, made_one]
  have I0 : wc.cell? ⟨I, 0, none⟩ = some (.pointer none) := by rw [bI.cell]; simp [madeCells]
  have C0 : wc.cell? ⟨C, 0, none⟩ = some (.slice (some ⟨N, 0, none⟩) (n + 1) (n + 1)) := bC.cell 0
  have C1 : wc.cell? ⟨C, 1, none⟩ = some (.slice (some ⟨I, 0, none⟩) (n + 1) (n + 1)) := bC.cell 1
  have fN := bN.frozen
  have fI := bI.frozen
  have SN := Lib.hid sN
  have SI := Lib.hid sI
  have B0 := Lib.hid b0
  have BN := Lib.hid bN
  have BI := Lib.hid bI
  have BC := Lib.hid bC
  have BL := Lib.hid bl
  clear sN sI b0 bN bI bC bl hmk hml hi hz0 hz1 hz2 gi gz0 gz1 gz2 i0 i1 tn1 wr1
  obtain ⟨w2, rfl⟩ : ∃ w2 : World, w2 = wc := ⟨_, rfl⟩
  go_upto_if 23 with fail
  go_cut [7] from 14 (fun x wx => Pre ls n w w2 N I C x wx)
  case first =>
    cases ls
    · go_wp2_with fail
      go_meet
      case rel =>
        refine ⟨w2.heap.size, w2.heap.size + 1, .iface 44 (ptr (w2.heap.size + 1)), (madeCells #[Value.pointer none] (n + 1)).setIfInBounds 0 (ptr (w2.heap.size + 1)), rfl, by omega, .inl ⟨by decide, rfl, #[.int .u32 0, .int .u32 0, .bool false, .bool false, .bool false], ?_⟩, ?_, ?_, ?_, ?_, ?_, ?_, ?_, ?_⟩
        · (repeat (with_reducible first | exact Bk.new' _ _ _ _ (by simp) | exact B0.out | exact BN.out | exact BI.out | exact BC.out | refine Bk.drew ?_ | refine Bk.alloc ?_ _ | refine Bk.set ?_ (by omega) | refine Bk.setSelf ?_))
        · (repeat (with_reducible first | exact Bk.new' _ _ _ _ (by simp) | exact B0.out | exact BN.out | exact BI.out | exact BC.out | refine Bk.drew ?_ | refine Bk.alloc ?_ _ | refine Bk.set ?_ (by omega) | refine Bk.setSelf ?_))
        · (repeat (with_reducible first | exact Bk.new' _ _ _ _ (by simp) | exact B0.out | exact BN.out | exact BI.out | exact BC.out | refine Bk.drew ?_ | refine Bk.alloc ?_ _ | refine Bk.set ?_ (by omega) | refine Bk.setSelf ?_))
        · (repeat (with_reducible first | exact Bk.new' _ _ _ _ (by simp) | exact B0.out | exact BN.out | exact BI.out | exact BC.out | refine Bk.drew ?_ | refine Bk.alloc ?_ _ | refine Bk.set ?_ (by omega) | refine Bk.setSelf ?_))
        · (repeat (with_reducible first | exact Bk.new' _ _ _ _ (by simp) | exact B0.out | exact BN.out | exact BI.out | exact BC.out | refine Bk.drew ?_ | refine Bk.alloc ?_ _ | refine Bk.set ?_ (by omega) | refine Bk.setSelf ?_))
        · rw [Array.size_setIfInBounds]; exact SI.out
        · intro _; rw [Array.getElem?_setIfInBounds, if_pos rfl, if_pos (by rw [SI.out]; omega)]
        · (repeat (with_reducible first | exact Bk.new' _ _ _ _ (by simp) | exact B0.out | exact BN.out | exact BI.out | exact BC.out | refine Bk.drew ?_ | refine Bk.alloc ?_ _ | refine Bk.set ?_ (by omega) | refine Bk.setSelf ?_))
        · (repeat (with_reducible first | exact BL.out | refine Below.drew ?_ | refine Below.alloc ?_ (by first | (simp; done) | (simp <;> omega) | omega) _ | refine Below.setCell ?_ (by first | (simp; done) | (simp <;> omega) | omega) _))
    · go_wp2_with fail
      go_meet
      case rel =>
        refine ⟨w2.heap.size, w2.heap.size + 1 + 1, .iface 46 (ptr (w2.heap.size + 1 + 1)), madeCells #[Value.pointer none] (n + 1), rfl, by omega, .inr ⟨by decide, rfl, some ⟨w2.heap.size + 1, 0, none⟩, 1, 1, .int .i32 0, .bool false, .bool false, .bool false, .inr ⟨by decide, rfl⟩, ?_⟩, ?_, ?_, ?_, ?_, ?_, ?_, ?_, ?_⟩
        · (repeat (with_reducible first | exact Bk.new' _ _ _ _ (by simp) | exact B0.out | exact BN.out | exact BI.out | exact BC.out | refine Bk.drew ?_ | refine Bk.alloc ?_ _ | refine Bk.set ?_ (by omega) | refine Bk.setSelf ?_))
        · (repeat (with_reducible first | exact Bk.new' _ _ _ _ (by simp) | exact B0.out | exact BN.out | exact BI.out | exact BC.out | refine Bk.drew ?_ | refine Bk.alloc ?_ _ | refine Bk.set ?_ (by omega) | refine Bk.setSelf ?_))
        · (repeat (with_reducible first | exact Bk.new' _ _ _ _ (by simp) | exact B0.out | exact BN.out | exact BI.out | exact BC.out | refine Bk.drew ?_ | refine Bk.alloc ?_ _ | refine Bk.set ?_ (by omega) | refine Bk.setSelf ?_))
        · (repeat (with_reducible first | exact Bk.new' _ _ _ _ (by simp) | exact B0.out | exact BN.out | exact BI.out | exact BC.out | refine Bk.drew ?_ | refine Bk.alloc ?_ _ | refine Bk.set ?_ (by omega) | refine Bk.setSelf ?_))
        · (repeat (with_reducible first | exact Bk.new' _ _ _ _ (by simp) | exact B0.out | exact BN.out | exact BI.out | exact BC.out | refine Bk.drew ?_ | refine Bk.alloc ?_ _ | refine Bk.set ?_ (by omega) | refine Bk.setSelf ?_))
        · exact SI.out
        · intro h; cases h
        · (repeat (with_reducible first | exact Bk.new' _ _ _ _ (by simp) | exact B0.out | exact BN.out | exact BI.out | exact BC.out | refine Bk.drew ?_ | refine Bk.alloc ?_ _ | refine Bk.set ?_ (by omega) | refine Bk.setSelf ?_))
        · (repeat (with_reducible first | exact BL.out | refine Below.drew ?_ | refine Below.alloc ?_ (by first | (simp; done) | (simp <;> omega) | omega) _ | refine Below.setCell ?_ (by first | (simp; done) | (simp <;> omega) | omega) _))
  obtain ⟨X, q0, d0, ai, rfl, hX, ho, xb, b0', bN', bI', sI', hI', bC', bl'⟩ := hcut
  clear B0 BN BI BC BL C0 C1 N0 N1 I0 fN fI zN2 zI2 zC2
  have zX := xb.lt
  have zN' := bN'.lt
  have zI' := bI'.lt
  have zC' := bC'.lt
  have x0 : wc.cell? ⟨X, 0, none⟩ = some d0 := xb.cell 0
  have x1 : wc.cell? ⟨X, 1, none⟩ = some (.int .i32 0) := xb.cell 1
  have N0 : wc.cell? ⟨N, 0, none⟩ = some .nilIface := by rw [bN'.cell]; simp [madeCells]
  have N1 : wc.cell? ⟨N, 1, none⟩ = some (.int .i32 0) := by rw [bN'.cell, made_one]
  have C0 : wc.cell? ⟨C, 0, none⟩ = some (.slice (some ⟨N, 0, none⟩) (n + 1) (n + 1)) := bC'.cell 0
  have fN := bN'.frozen
  have HO := Lib.hid ho
  have XB := Lib.hid xb
  have B0 := Lib.hid b0'
  have BN := Lib.hid bN'
  have BI := Lib.hid bI'
  have BC := Lib.hid bC'
  have BL := Lib.hid bl'
  have SI' := Lib.hid sI'
  have HI' := Lib.hid hI'
  have shp := ho.shape
  obtain ⟨T0, g0, t0, c0, rfl, _, _⟩ := shp
  clear ho xb b0' bN' bI' bC' bl' sI' hI'
  go_wp2_with fail
  go_loopw [9] (fun v wr => ∃ m i : Nat, m ≤ n + 1 ∧ v = .int .i64 m ∧ Hid (m = i + 1 ∧ Lp ls rs n w N I C i wr)) (fun v _ => n + 1 - (intOf v).toNat)
  case atStart =>
    refine ⟨1, 0, by omega, rfl, rfl, fun _ => .iface T0 (ptr g0), fun _ => 0, fun _ => q0, ((madeCells #[Value.nilIface, .int .i32 0] ((n + 1) * 2)).setIfInBounds 0 (.iface T0 (ptr g0))).setIfInBounds 1 (.int .i32 0), ai, ?_, ?_, ?_, ?_, ?_⟩
    · refine ⟨HO.out.move fun t cs ht h => ?_, fun j hj => absurd hj (by omega)⟩
      have a2 : q0 ≠ N := h.ne BN.out (by rcases ht with h | h <;> subst h <;> decide)
      exact (h.set a2).set a2
    · refine ⟨(by repeat (first | exact BN.out | exact BI.out | exact BC.out | exact B0.out | refine Bk.set ?_ (by omega) | refine Bk.setSelf ?_)), (by repeat (first | exact BN.out | exact BI.out | exact BC.out | exact B0.out | refine Bk.set ?_ (by omega) | refine Bk.setSelf ?_)), by rw [Array.size_setIfInBounds, Array.size_setIfInBounds]; exact SN.out, SI'.out, fun j hj => ?_, HI'.out, fun j hj => absurd hj (by omega)⟩
      obtain rfl : j = 0 := by omega
      refine ⟨?_, ?_⟩
      · rw [Array.getElem?_setIfInBounds, if_neg (by omega), Array.getElem?_setIfInBounds, if_pos rfl, if_pos (by rw [SN.out]; omega)]
      · rw [Array.getElem?_setIfInBounds, if_pos rfl, if_pos (by rw [Array.size_setIfInBounds, SN.out]; omega)]; rfl
    · exact (by repeat (first | exact BN.out | exact BI.out | exact BC.out | exact B0.out | refine Bk.set ?_ (by omega) | refine Bk.setSelf ?_))
    · exact (by repeat (first | exact BN.out | exact BI.out | exact BC.out | exact B0.out | refine Bk.set ?_ (by omega) | refine Bk.setSelf ?_))
    · (repeat (with_reducible first | exact BL.out | refine Below.setCell ?_ (by first | (simp; done) | (simp <;> omega) | omega) _))
  case round =>
    obtain ⟨m, i, hm, rfl, H⟩ := hrel
    clear HO XB B0 BN BI BC BL SI' HI' x0 x1 N0 N1 C0 fN
    by_cases hlt : m ≤ n
    · have HM := Lib.hid H.out.1
      have hi : i < n := by have := H.out.1; omega
      obtain ⟨D, G, Q, an, ai, ht, hr, hb0, hbC, hbl⟩ := H.out.2
      obtain ⟨b, off, u, hA, hbb, hu, hx⟩ := HS.out.at_ (k := i) (by omega)
      obtain ⟨r, hr0, rfl⟩ : ∃ r, rs[i]? = some r ∧ Value.int .i8 r = u := by simpa using hu
      have ex : m - 1 = i := by have := HM.out; omega
      have c0 : wr.cell? ⟨b, off + (m - 1), none⟩ = some (.int .i8 r) := by rw [ex]; exact (hbl.cell (p := ⟨b, off + i, none⟩) hbb).trans hx
      subst hA
      have hm1 : 1 ≤ m := by have := HM.out; omega
      have zb : b < wr.heap.size := by have := hbl.size; omega
      have yN := hr.bn.lt
      have yI := hr.bi.lt
      have yC := hbC.lt
      have y0 := hb0.lt
      have zb1 : b < wr.heap.size + 1 := by omega
      have yN1 : N < wr.heap.size + 1 := by omega
      have yI1 : I < wr.heap.size + 1 := by omega
      have yC1 : C < wr.heap.size + 1 := by omega
      have yN2 : N < wr.heap.size + 1 + 1 := by omega
      have yI2 : I < wr.heap.size + 1 + 1 := by omega
      have yC2 : C < wr.heap.size + 1 + 1 := by omega
      have yN3 : N < wr.heap.size + 1 + 1 + 1 := by omega
      have yI3 : I < wr.heap.size + 1 + 1 + 1 := by omega
      have yC3 : C < wr.heap.size + 1 + 1 + 1 := by omega
      have C0 : wr.cell? ⟨C, 0, none⟩ = some (.slice (some ⟨N, 0, none⟩) (n + 1) (n + 1)) := hbC.cell 0
      have C1 : wr.cell? ⟨C, 1, none⟩ = some (.slice (some ⟨I, 0, none⟩) (n + 1) (n + 1)) := hbC.cell 1
      have fN := hr.bn.frozen
      have fI := hr.bi.frozen
      obtain ⟨v, hv⟩ : ∃ v, ai[m]? = some v := ⟨_, Array.getElem?_eq_getElem (by rw [hr.si]; omega)⟩
      have I1 : wr.cell? ⟨I, m, none⟩ = some v := by rw [hr.bi.cell]; exact hv
      clear ex hx hu hv
      have HR := Lib.hid hr
      have HT := Lib.hid ht
      have HC := Lib.hid hbC
      have HB0 := Lib.hid hb0
      have HBL := Lib.hid hbl
      clear hr ht hbC hb0 hbl
      by_cases h1 : r < 0
      · go_wp2_with fail
        obtain ⟨w4, hw4⟩ : ∃ w4 : World, w4 = (((wr.setCell ⟨I, m, none⟩ (.pointer (some ⟨wr.heap.size + 1, 0, none⟩))).alloc (.cells #[.iface 44 (.pointer (some ⟨wr.heap.size + 1, 0, none⟩)), .int .i32 (2 * (m : Int))] 34)).alloc (.cells #[.int .u32 0, .int .u32 (m : Int), .bool false, .bool false, .bool false] 56)).alloc (.cells #[.nilIface, .int .i32 (2 * (m : Int) + 1)] 34) := ⟨_, rfl⟩
        rw [← hw4]
        have K3 : Hid (∀ q t cs, (t = 56 ∨ t = 50 ∨ t = 43) → Bk wr q t cs → Bk w4 q t cs) := by
          rw [hw4]; refine Lib.hid ?_; intro q t cs ht h
          have nI : q ≠ I := h.ne HR.out.bi (by rcases ht with h | h | h <;> subst h <;> decide)
          (repeat (with_reducible first | exact h | refine Bk.alloc ?_ _ | refine Bk.set ?_ nI))
        have OP : Hid (Opd w4 r (wr.heap.size + 1) (.iface 44 (ptr (wr.heap.size + 1)))) := by rw [hw4]; refine Lib.hid ?_; exact .inl ⟨h1, rfl, #[.int .u32 0, .int .u32 (m : Int), .bool false, .bool false, .bool false], by (repeat (with_reducible first | exact Bk.new' _ _ _ _ (by simp) | refine Bk.alloc ?_ _))⟩
        have B4N : Hid (Bk w4 N 34 an) := by rw [hw4]; refine Lib.hid ?_; (repeat (with_reducible first | exact Bk.new' _ _ _ _ (by simp) | exact HR.out.bn | exact HR.out.bi | exact HC.out | exact HB0.out | refine Bk.alloc ?_ _ | refine Bk.set ?_ (by omega) | refine Bk.setSelf ?_))
        have B4I : Hid (Bk w4 I 44 (ai.setIfInBounds m (ptr (wr.heap.size + 1)))) := by rw [hw4]; refine Lib.hid ?_; (repeat (with_reducible first | exact Bk.new' _ _ _ _ (by simp) | exact HR.out.bn | exact HR.out.bi | exact HC.out | exact HB0.out | refine Bk.alloc ?_ _ | refine Bk.set ?_ (by omega) | refine Bk.setSelf ?_))
        have B4C : Hid (Bk w4 C 27 (chainCell N I n)) := by rw [hw4]; refine Lib.hid ?_; (repeat (with_reducible first | exact Bk.new' _ _ _ _ (by simp) | exact HR.out.bn | exact HR.out.bi | exact HC.out | exact HB0.out | refine Bk.alloc ?_ _ | refine Bk.set ?_ (by omega) | refine Bk.setSelf ?_))
        have B40 : Hid (Bk w4 w.heap.size 27 #[.slice none 0 0, .slice none 0 0]) := by rw [hw4]; refine Lib.hid ?_; (repeat (with_reducible first | exact Bk.new' _ _ _ _ (by simp) | exact HR.out.bn | exact HR.out.bi | exact HC.out | exact HB0.out | refine Bk.alloc ?_ _ | refine Bk.set ?_ (by omega) | refine Bk.setSelf ?_))
        have B4R : Hid (Bk w4 wr.heap.size 34 #[.iface 44 (ptr (wr.heap.size + 1)), .int .i32 (2 * (m : Int))]) := by rw [hw4]; refine Lib.hid ?_; (repeat (with_reducible first | exact Bk.new' _ _ _ _ (by simp) | exact HR.out.bn | exact HR.out.bi | exact HC.out | exact HB0.out | refine Bk.alloc ?_ _ | refine Bk.set ?_ (by omega) | refine Bk.setSelf ?_))
        have B4B : Hid (Bk w4 (wr.heap.size + 1 + 1) 34 #[.nilIface, .int .i32 (2 * (m : Int) + 1)]) := by rw [hw4]; refine Lib.hid ?_; (repeat (with_reducible first | exact Bk.new' _ _ _ _ (by simp) | exact HR.out.bn | exact HR.out.bi | exact HC.out | exact HB0.out | refine Bk.alloc ?_ _ | refine Bk.set ?_ (by omega) | refine Bk.setSelf ?_))
        have L4 : Hid (Below w.heap.size w w4) := by rw [hw4]; refine Lib.hid ?_; (repeat (with_reducible first | exact HBL.out | refine Below.alloc ?_ (by first | (simp; done) | (simp <;> omega) | omega) _ | refine Below.setCell ?_ (by first | (simp; done) | (simp <;> omega) | omega) _))
        have z4 : wr.heap.size < w4.heap.size := B4R.out.lt
        have z5 : wr.heap.size + 1 + 1 < w4.heap.size := B4B.out.lt
        have AS : Hid ((ai.setIfInBounds m (ptr (wr.heap.size + 1))).size = n + 1 ∧ ∀ j, j < m → (ai.setIfInBounds m (ptr (wr.heap.size + 1)))[j]? = ai[j]?) := by exact ⟨by rw [Array.size_setIfInBounds]; exact HR.out.si, fun j hj => by rw [Array.getElem?_setIfInBounds, if_neg (by omega)]⟩
        have AX : Hid (r < 0 → (ai.setIfInBounds m (ptr (wr.heap.size + 1)))[m]? = some (ptr (wr.heap.size + 1))) := fun _ => by rw [Array.getElem?_setIfInBounds, if_pos rfl, if_pos (by rw [HR.out.si]; omega)]
        clear hw4 C0 C1 fN fI I1 c0 zb1 yN1 yI1 yC1 yN2 yI2 yC2 yN3 yI3 yC3
        have yN := B4N.out.lt
        have yI := B4I.out.lt
        have yC := B4C.out.lt
        have y0 := B40.out.lt
        have C0 : w4.cell? ⟨C, 0, none⟩ = some (.slice (some ⟨N, 0, none⟩) (n + 1) (n + 1)) := B4C.out.cell 0
        have R0 : w4.cell? ⟨wr.heap.size, 0, none⟩ = some (.iface 44 (ptr (wr.heap.size + 1))) := B4R.out.cell 0
        have R1 : w4.cell? ⟨wr.heap.size, 1, none⟩ = some (.int .i32 (2 * (m : Int))) := B4R.out.cell 1
        have M0 : w4.cell? ⟨wr.heap.size + 1 + 1, 0, none⟩ = some .nilIface := B4B.out.cell 0
        have M1 : w4.cell? ⟨wr.heap.size + 1 + 1, 1, none⟩ = some (.int .i32 (2 * (m : Int) + 1)) := B4B.out.cell 1
        have fM := B4B.out.frozen
        have D0 : w4.cell? ⟨N, i * 2, none⟩ = some (D i) := by rw [B4N.out.cell, Nat.mul_comm]; exact (HR.out.dn i (Nat.le_refl _)).1
        have D1 : w4.cell? ⟨N, i * 2 + 1, none⟩ = some (.int .i32 (loc i)) := by rw [B4N.out.cell, Nat.mul_comm]; exact (HR.out.dn i (Nat.le_refl _)).2
        have ws : IntKind.i64.wrap ((m : Int) - 1) = (i : Int) := by rw [IntWalk.i64_in _ (by omega)]; have := HM.out; omega
        have hi1 : i < n + 1 := by omega
        obtain ⟨v1, hv1⟩ : ∃ v, an[m * 2]? = some v := ⟨_, Array.getElem?_eq_getElem (by rw [HR.out.sn]; omega)⟩
        obtain ⟨v2, hv2⟩ : ∃ v, an[m * 2 + 1]? = some v := ⟨_, Array.getElem?_eq_getElem (by rw [HR.out.sn]; omega)⟩
        have D2 : w4.cell? ⟨N, m * 2, none⟩ = some v1 := by rw [B4N.out.cell]; exact hv1
        have D3 : w4.cell? ⟨N, m * 2 + 1, none⟩ = some v2 := by rw [B4N.out.cell]; exact hv2
        have fN4 := B4N.out.frozen
        clear hv1 hv2
        have hi2 : (0 : Int) ≤ (i : Int) := by omega
        have hi3 : (i : Int) < (n : Int) + 1 := by omega
        have KP := Lib.hid (show ∀ w', Kp (wr.heap.size + 1 + 1) w4 w' → w'.cell? ⟨C, 0, none⟩ = some (.slice (some ⟨N, 0, none⟩) (n + 1) (n + 1)) ∧ w'.cell? ⟨N, i * 2, none⟩ = some (D i) ∧ w'.cell? ⟨N, i * 2 + 1, none⟩ = some (.int .i32 (loc i)) ∧ w'.cell? ⟨wr.heap.size, 0, none⟩ = some (.iface 44 (ptr (wr.heap.size + 1))) ∧ w'.cell? ⟨wr.heap.size, 1, none⟩ = some (.int .i32 (2 * (m : Int))) from fun w' h => ⟨h.cell (by omega) C0, h.cell (by omega) D0, h.cell (by omega) D1, h.cell (by omega) R0, h.cell (by omega) R1⟩)
        go_region_held3 (fun w' => w'.cell? ⟨C, 0, none⟩ = some (.slice (some ⟨N, 0, none⟩) (n + 1) (n + 1)) ∧ w'.cell? ⟨N, i * 2, none⟩ = some (D i) ∧ w'.cell? ⟨N, i * 2 + 1, none⟩ = some (.int .i32 (loc i)) ∧ w'.cell? ⟨wr.heap.size, 0, none⟩ = some (.iface 44 (ptr (wr.heap.size + 1))) ∧ w'.cell? ⟨wr.heap.size, 1, none⟩ = some (.int .i32 (2 * (m : Int)))) ((refine KP.out _ ?_; (repeat (with_reducible first | exact Kp.refl _ _ | refine Kp.drew ?_ | refine Kp.alloc ?_ _ | refine Kp.set ?_ _ _)))) (fail)
        go_wp2_with fail
        go_roundw
        case rel =>
          refine ⟨m + 1, i + 1, by omega, by go_num, by have := HM.out; omega, ?_⟩
          have q1 : N ≠ wr.heap.size + 1 + 1 := by omega
          have q2 : I ≠ wr.heap.size + 1 + 1 := by omega
          have q3 : C ≠ wr.heap.size + 1 + 1 := by omega
          have q4 : w.heap.size ≠ wr.heap.size + 1 + 1 := by omega
          have q5 : wr.heap.size ≠ wr.heap.size + 1 + 1 := by omega
          have q6 : w.heap.size ≠ N := by omega
          refine lp_step (E := w4.heap.size) HM.out hr0 hm hlt HT.out HR.out K3.out OP.out AS.out AX.out ?_ ?_ ?_ ?_ ?_ ?_ ?_
          · intro q t cs ht h
            have a1 : q ≠ wr.heap.size + 1 + 1 := h.ne B4B.out (by rcases ht with h | h | h <;> subst h <;> decide)
            have a2 : q ≠ N := h.ne B4N.out (by rcases ht with h | h | h <;> subst h <;> decide)
            (repeat (with_reducible first | exact h | refine Bk.drew ?_ | refine Bk.alloc ?_ _ | refine Bk.set ?_ a1 | refine Bk.set ?_ a2))
          · (repeat (with_reducible first | exact Bk.new' _ _ _ _ (by simp) | exact B4N.out | exact B4I.out | exact B4C.out | exact B40.out | refine Bk.drew ?_ | refine Bk.alloc ?_ _ | refine Bk.set ?_ (by omega) | refine Bk.setSelf ?_))
          · (repeat (with_reducible first | exact Bk.new' _ _ _ _ (by simp) | exact B4N.out | exact B4I.out | exact B4C.out | exact B40.out | refine Bk.drew ?_ | refine Bk.alloc ?_ _ | refine Bk.set ?_ (by omega) | refine Bk.setSelf ?_))
          · (repeat (with_reducible first | exact Bk.new' _ _ _ _ (by simp) | exact B4N.out | exact B4I.out | exact B4C.out | exact B40.out | refine Bk.drew ?_ | refine Bk.alloc ?_ _ | refine Bk.set ?_ (by omega) | refine Bk.setSelf ?_))
          · (repeat (with_reducible first | exact Bk.new' _ _ _ _ (by simp) | exact B4N.out | exact B4I.out | exact B4C.out | exact B40.out | refine Bk.drew ?_ | refine Bk.alloc ?_ _ | refine Bk.set ?_ (by omega) | refine Bk.setSelf ?_))
          · (repeat (with_reducible first | exact Bk.new' _ _ _ _ (by simp) | exact B4N.out | exact B4I.out | exact B4C.out | exact B40.out | refine Bk.drew ?_ | refine Bk.alloc ?_ _ | refine Bk.set ?_ (by omega) | refine Bk.setSelf ?_))
          · (repeat (with_reducible first | exact L4.out | refine Below.drew ?_ | refine Below.alloc ?_ (by first | (simp; done) | (simp <;> omega) | omega) _ | refine Below.setCell ?_ (by first | (simp; done) | (simp <;> omega) | omega) _))
        case measure => simp [intOf]; omega
      · by_cases h2 : r = 0
        · have h3 := h2
          clear h1
          subst h2
          go_wp2_with fail
          obtain ⟨w4, hw4⟩ : ∃ w4 : World, w4 = ((wr.alloc (.cells #[.iface 46 (.pointer (some ⟨wr.heap.size + 1, 0, none⟩)), .int .i32 (2 * (m : Int))] 34)).alloc (.cells #[.slice none 0 0, .int .i32 0, .bool false, .bool false, .bool false] 50)).alloc (.cells #[.nilIface, .int .i32 (2 * (m : Int) + 1)] 34) := ⟨_, rfl⟩
          rw [← hw4]
          have K3 : Hid (∀ q t cs, (t = 56 ∨ t = 50 ∨ t = 43) → Bk wr q t cs → Bk w4 q t cs) := by
            rw [hw4]; refine Lib.hid ?_; intro q t cs ht h
            have nI : q ≠ I := h.ne HR.out.bi (by rcases ht with h | h | h <;> subst h <;> decide)
            (repeat (with_reducible first | exact h | refine Bk.alloc ?_ _ | refine Bk.set ?_ nI))
          have OP : Hid (Opd w4 0 (wr.heap.size + 1) (.iface 46 (ptr (wr.heap.size + 1)))) := by rw [hw4]; refine Lib.hid ?_; exact .inr ⟨by decide, rfl, none, 0, 0, .int .i32 0, .bool false, .bool false, .bool false, .inl ⟨rfl, rfl⟩, by (repeat (with_reducible first | exact Bk.new' _ _ _ _ (by simp) | refine Bk.alloc ?_ _))⟩
          have B4N : Hid (Bk w4 N 34 an) := by rw [hw4]; refine Lib.hid ?_; (repeat (with_reducible first | exact Bk.new' _ _ _ _ (by simp) | exact HR.out.bn | exact HR.out.bi | exact HC.out | exact HB0.out | refine Bk.alloc ?_ _ | refine Bk.set ?_ (by omega) | refine Bk.setSelf ?_))
          have B4I : Hid (Bk w4 I 44 (ai)) := by rw [hw4]; refine Lib.hid ?_; (repeat (with_reducible first | exact Bk.new' _ _ _ _ (by simp) | exact HR.out.bn | exact HR.out.bi | exact HC.out | exact HB0.out | refine Bk.alloc ?_ _ | refine Bk.set ?_ (by omega) | refine Bk.setSelf ?_))
          have B4C : Hid (Bk w4 C 27 (chainCell N I n)) := by rw [hw4]; refine Lib.hid ?_; (repeat (with_reducible first | exact Bk.new' _ _ _ _ (by simp) | exact HR.out.bn | exact HR.out.bi | exact HC.out | exact HB0.out | refine Bk.alloc ?_ _ | refine Bk.set ?_ (by omega) | refine Bk.setSelf ?_))
          have B40 : Hid (Bk w4 w.heap.size 27 #[.slice none 0 0, .slice none 0 0]) := by rw [hw4]; refine Lib.hid ?_; (repeat (with_reducible first | exact Bk.new' _ _ _ _ (by simp) | exact HR.out.bn | exact HR.out.bi | exact HC.out | exact HB0.out | refine Bk.alloc ?_ _ | refine Bk.set ?_ (by omega) | refine Bk.setSelf ?_))
          have B4R : Hid (Bk w4 wr.heap.size 34 #[.iface 46 (ptr (wr.heap.size + 1)), .int .i32 (2 * (m : Int))]) := by rw [hw4]; refine Lib.hid ?_; (repeat (with_reducible first | exact Bk.new' _ _ _ _ (by simp) | exact HR.out.bn | exact HR.out.bi | exact HC.out | exact HB0.out | refine Bk.alloc ?_ _ | refine Bk.set ?_ (by omega) | refine Bk.setSelf ?_))
          have B4B : Hid (Bk w4 (wr.heap.size + 1 + 1) 34 #[.nilIface, .int .i32 (2 * (m : Int) + 1)]) := by rw [hw4]; refine Lib.hid ?_; (repeat (with_reducible first | exact Bk.new' _ _ _ _ (by simp) | exact HR.out.bn | exact HR.out.bi | exact HC.out | exact HB0.out | refine Bk.alloc ?_ _ | refine Bk.set ?_ (by omega) | refine Bk.setSelf ?_))
          have L4 : Hid (Below w.heap.size w w4) := by rw [hw4]; refine Lib.hid ?_; (repeat (with_reducible first | exact HBL.out | refine Below.alloc ?_ (by first | (simp; done) | (simp <;> omega) | omega) _ | refine Below.setCell ?_ (by first | (simp; done) | (simp <;> omega) | omega) _))
          have z4 : wr.heap.size < w4.heap.size := B4R.out.lt
          have z5 : wr.heap.size + 1 + 1 < w4.heap.size := B4B.out.lt
          have AS : Hid ((ai).size = n + 1 ∧ ∀ j, j < m → (ai)[j]? = ai[j]?) := by exact ⟨HR.out.si, fun _ _ => rfl⟩
          have AX : Hid ((0 : Int) < 0 → (ai)[m]? = some (ptr (wr.heap.size + 1))) := fun h => absurd h (by decide)
          clear hw4 C0 C1 fN fI I1 c0 zb1 yN1 yI1 yC1 yN2 yI2 yC2 yN3 yI3 yC3
          have yN := B4N.out.lt
          have yI := B4I.out.lt
          have yC := B4C.out.lt
          have y0 := B40.out.lt
          have C0 : w4.cell? ⟨C, 0, none⟩ = some (.slice (some ⟨N, 0, none⟩) (n + 1) (n + 1)) := B4C.out.cell 0
          have R0 : w4.cell? ⟨wr.heap.size, 0, none⟩ = some (.iface 46 (ptr (wr.heap.size + 1))) := B4R.out.cell 0
          have R1 : w4.cell? ⟨wr.heap.size, 1, none⟩ = some (.int .i32 (2 * (m : Int))) := B4R.out.cell 1
          have M0 : w4.cell? ⟨wr.heap.size + 1 + 1, 0, none⟩ = some .nilIface := B4B.out.cell 0
          have M1 : w4.cell? ⟨wr.heap.size + 1 + 1, 1, none⟩ = some (.int .i32 (2 * (m : Int) + 1)) := B4B.out.cell 1
          have fM := B4B.out.frozen
          have D0 : w4.cell? ⟨N, i * 2, none⟩ = some (D i) := by rw [B4N.out.cell, Nat.mul_comm]; exact (HR.out.dn i (Nat.le_refl _)).1
          have D1 : w4.cell? ⟨N, i * 2 + 1, none⟩ = some (.int .i32 (loc i)) := by rw [B4N.out.cell, Nat.mul_comm]; exact (HR.out.dn i (Nat.le_refl _)).2
          have ws : IntKind.i64.wrap ((m : Int) - 1) = (i : Int) := by rw [IntWalk.i64_in _ (by omega)]; have := HM.out; omega
          have hi1 : i < n + 1 := by omega
          obtain ⟨v1, hv1⟩ : ∃ v, an[m * 2]? = some v := ⟨_, Array.getElem?_eq_getElem (by rw [HR.out.sn]; omega)⟩
          obtain ⟨v2, hv2⟩ : ∃ v, an[m * 2 + 1]? = some v := ⟨_, Array.getElem?_eq_getElem (by rw [HR.out.sn]; omega)⟩
          have D2 : w4.cell? ⟨N, m * 2, none⟩ = some v1 := by rw [B4N.out.cell]; exact hv1
          have D3 : w4.cell? ⟨N, m * 2 + 1, none⟩ = some v2 := by rw [B4N.out.cell]; exact hv2
          have fN4 := B4N.out.frozen
          clear hv1 hv2
          have hi2 : (0 : Int) ≤ (i : Int) := by omega
          have hi3 : (i : Int) < (n : Int) + 1 := by omega
          have KP := Lib.hid (show ∀ w', Kp (wr.heap.size + 1 + 1) w4 w' → w'.cell? ⟨C, 0, none⟩ = some (.slice (some ⟨N, 0, none⟩) (n + 1) (n + 1)) ∧ w'.cell? ⟨N, i * 2, none⟩ = some (D i) ∧ w'.cell? ⟨N, i * 2 + 1, none⟩ = some (.int .i32 (loc i)) ∧ w'.cell? ⟨wr.heap.size, 0, none⟩ = some (.iface 46 (ptr (wr.heap.size + 1))) ∧ w'.cell? ⟨wr.heap.size, 1, none⟩ = some (.int .i32 (2 * (m : Int))) from fun w' h => ⟨h.cell (by omega) C0, h.cell (by omega) D0, h.cell (by omega) D1, h.cell (by omega) R0, h.cell (by omega) R1⟩)
          go_region_held3 (fun w' => w'.cell? ⟨C, 0, none⟩ = some (.slice (some ⟨N, 0, none⟩) (n + 1) (n + 1)) ∧ w'.cell? ⟨N, i * 2, none⟩ = some (D i) ∧ w'.cell? ⟨N, i * 2 + 1, none⟩ = some (.int .i32 (loc i)) ∧ w'.cell? ⟨wr.heap.size, 0, none⟩ = some (.iface 46 (ptr (wr.heap.size + 1))) ∧ w'.cell? ⟨wr.heap.size, 1, none⟩ = some (.int .i32 (2 * (m : Int)))) ((refine KP.out _ ?_; (repeat (with_reducible first | exact Kp.refl _ _ | refine Kp.drew ?_ | refine Kp.alloc ?_ _ | refine Kp.set ?_ _ _)))) (fail)
          go_wp2_with fail
          go_roundw
          case rel =>
            refine ⟨m + 1, i + 1, by omega, by go_num, by have := HM.out; omega, ?_⟩
            have q1 : N ≠ wr.heap.size + 1 + 1 := by omega
            have q2 : I ≠ wr.heap.size + 1 + 1 := by omega
            have q3 : C ≠ wr.heap.size + 1 + 1 := by omega
            have q4 : w.heap.size ≠ wr.heap.size + 1 + 1 := by omega
            have q5 : wr.heap.size ≠ wr.heap.size + 1 + 1 := by omega
            have q6 : w.heap.size ≠ N := by omega
            refine lp_step (E := w4.heap.size) HM.out hr0 hm hlt HT.out HR.out K3.out OP.out AS.out AX.out ?_ ?_ ?_ ?_ ?_ ?_ ?_
            · intro q t cs ht h
              have a1 : q ≠ wr.heap.size + 1 + 1 := h.ne B4B.out (by rcases ht with h | h | h <;> subst h <;> decide)
              have a2 : q ≠ N := h.ne B4N.out (by rcases ht with h | h | h <;> subst h <;> decide)
              (repeat (with_reducible first | exact h | refine Bk.drew ?_ | refine Bk.alloc ?_ _ | refine Bk.set ?_ a1 | refine Bk.set ?_ a2))
            · (repeat (with_reducible first | exact Bk.new' _ _ _ _ (by simp) | exact B4N.out | exact B4I.out | exact B4C.out | exact B40.out | refine Bk.drew ?_ | refine Bk.alloc ?_ _ | refine Bk.set ?_ (by omega) | refine Bk.setSelf ?_))
            · (repeat (with_reducible first | exact Bk.new' _ _ _ _ (by simp) | exact B4N.out | exact B4I.out | exact B4C.out | exact B40.out | refine Bk.drew ?_ | refine Bk.alloc ?_ _ | refine Bk.set ?_ (by omega) | refine Bk.setSelf ?_))
            · (repeat (with_reducible first | exact Bk.new' _ _ _ _ (by simp) | exact B4N.out | exact B4I.out | exact B4C.out | exact B40.out | refine Bk.drew ?_ | refine Bk.alloc ?_ _ | refine Bk.set ?_ (by omega) | refine Bk.setSelf ?_))
            · (repeat (with_reducible first | exact Bk.new' _ _ _ _ (by simp) | exact B4N.out | exact B4I.out | exact B4C.out | exact B40.out | refine Bk.drew ?_ | refine Bk.alloc ?_ _ | refine Bk.set ?_ (by omega) | refine Bk.setSelf ?_))
            · (repeat (with_reducible first | exact Bk.new' _ _ _ _ (by simp) | exact B4N.out | exact B4I.out | exact B4C.out | exact B40.out | refine Bk.drew ?_ | refine Bk.alloc ?_ _ | refine Bk.set ?_ (by omega) | refine Bk.setSelf ?_))
            · (repeat (with_reducible first | exact L4.out | refine Below.drew ?_ | refine Below.alloc ?_ (by first | (simp; done) | (simp <;> omega) | omega) _ | refine Below.setCell ?_ (by first | (simp; done) | (simp <;> omega) | omega) _))
          case measure => simp [intOf]; omega
        · have h3 : 0 < r := by omega
          go_wp2_with fail
          obtain ⟨w4, hw4⟩ : ∃ w4 : World, w4 = (((wr.alloc (.cells #[.iface 46 (.pointer (some ⟨wr.heap.size + 1 + 1, 0, none⟩)), .int .i32 (2 * (m : Int))] 34)).alloc (.cells #[.int .u16 121] 51)).alloc (.cells #[.slice (some ⟨wr.heap.size + 1, 0, none⟩) 1 1, .int .i32 0, .bool false, .bool false, .bool false] 50)).alloc (.cells #[.nilIface, .int .i32 (2 * (m : Int) + 1)] 34) := ⟨_, rfl⟩
          rw [← hw4]
          have K3 : Hid (∀ q t cs, (t = 56 ∨ t = 50 ∨ t = 43) → Bk wr q t cs → Bk w4 q t cs) := by
            rw [hw4]; refine Lib.hid ?_; intro q t cs ht h
            have nI : q ≠ I := h.ne HR.out.bi (by rcases ht with h | h | h <;> subst h <;> decide)
            (repeat (with_reducible first | exact h | refine Bk.alloc ?_ _ | refine Bk.set ?_ nI))
          have OP : Hid (Opd w4 r (wr.heap.size + 1 + 1) (.iface 46 (ptr (wr.heap.size + 1 + 1)))) := by rw [hw4]; refine Lib.hid ?_; exact .inr ⟨by omega, rfl, some ⟨wr.heap.size + 1, 0, none⟩, 1, 1, .int .i32 0, .bool false, .bool false, .bool false, .inr ⟨h3, rfl⟩, by (repeat (with_reducible first | exact Bk.new' _ _ _ _ (by simp) | refine Bk.alloc ?_ _))⟩
          have B4N : Hid (Bk w4 N 34 an) := by rw [hw4]; refine Lib.hid ?_; (repeat (with_reducible first | exact Bk.new' _ _ _ _ (by simp) | exact HR.out.bn | exact HR.out.bi | exact HC.out | exact HB0.out | refine Bk.alloc ?_ _ | refine Bk.set ?_ (by omega) | refine Bk.setSelf ?_))
          have B4I : Hid (Bk w4 I 44 (ai)) := by rw [hw4]; refine Lib.hid ?_; (repeat (with_reducible first | exact Bk.new' _ _ _ _ (by simp) | exact HR.out.bn | exact HR.out.bi | exact HC.out | exact HB0.out | refine Bk.alloc ?_ _ | refine Bk.set ?_ (by omega) | refine Bk.setSelf ?_))
          have B4C : Hid (Bk w4 C 27 (chainCell N I n)) := by rw [hw4]; refine Lib.hid ?_; (repeat (with_reducible first | exact Bk.new' _ _ _ _ (by simp) | exact HR.out.bn | exact HR.out.bi | exact HC.out | exact HB0.out | refine Bk.alloc ?_ _ | refine Bk.set ?_ (by omega) | refine Bk.setSelf ?_))
          have B40 : Hid (Bk w4 w.heap.size 27 #[.slice none 0 0, .slice none 0 0]) := by rw [hw4]; refine Lib.hid ?_; (repeat (with_reducible first | exact Bk.new' _ _ _ _ (by simp) | exact HR.out.bn | exact HR.out.bi | exact HC.out | exact HB0.out | refine Bk.alloc ?_ _ | refine Bk.set ?_ (by omega) | refine Bk.setSelf ?_))
          have B4R : Hid (Bk w4 wr.heap.size 34 #[.iface 46 (ptr (wr.heap.size + 1 + 1)), .int .i32 (2 * (m : Int))]) := by rw [hw4]; refine Lib.hid ?_; (repeat (with_reducible first | exact Bk.new' _ _ _ _ (by simp) | exact HR.out.bn | exact HR.out.bi | exact HC.out | exact HB0.out | refine Bk.alloc ?_ _ | refine Bk.set ?_ (by omega) | refine Bk.setSelf ?_))
          have B4B : Hid (Bk w4 (wr.heap.size + 1 + 1 + 1) 34 #[.nilIface, .int .i32 (2 * (m : Int) + 1)]) := by rw [hw4]; refine Lib.hid ?_; (repeat (with_reducible first | exact Bk.new' _ _ _ _ (by simp) | exact HR.out.bn | exact HR.out.bi | exact HC.out | exact HB0.out | refine Bk.alloc ?_ _ | refine Bk.set ?_ (by omega) | refine Bk.setSelf ?_))
          have L4 : Hid (Below w.heap.size w w4) := by rw [hw4]; refine Lib.hid ?_; (repeat (with_reducible first | exact HBL.out | refine Below.alloc ?_ (by first | (simp; done) | (simp <;> omega) | omega) _ | refine Below.setCell ?_ (by first | (simp; done) | (simp <;> omega) | omega) _))
          have z4 : wr.heap.size < w4.heap.size := B4R.out.lt
          have z5 : wr.heap.size + 1 + 1 + 1 < w4.heap.size := B4B.out.lt
          have AS : Hid ((ai).size = n + 1 ∧ ∀ j, j < m → (ai)[j]? = ai[j]?) := by exact ⟨HR.out.si, fun _ _ => rfl⟩
          have AX : Hid (r < 0 → (ai)[m]? = some (ptr (wr.heap.size + 1 + 1))) := fun h => absurd h (by omega)
          clear hw4 C0 C1 fN fI I1 c0 zb1 yN1 yI1 yC1 yN2 yI2 yC2 yN3 yI3 yC3
          have yN := B4N.out.lt
          have yI := B4I.out.lt
          have yC := B4C.out.lt
          have y0 := B40.out.lt
          have C0 : w4.cell? ⟨C, 0, none⟩ = some (.slice (some ⟨N, 0, none⟩) (n + 1) (n + 1)) := B4C.out.cell 0
          have R0 : w4.cell? ⟨wr.heap.size, 0, none⟩ = some (.iface 46 (ptr (wr.heap.size + 1 + 1))) := B4R.out.cell 0
          have R1 : w4.cell? ⟨wr.heap.size, 1, none⟩ = some (.int .i32 (2 * (m : Int))) := B4R.out.cell 1
          have M0 : w4.cell? ⟨wr.heap.size + 1 + 1 + 1, 0, none⟩ = some .nilIface := B4B.out.cell 0
          have M1 : w4.cell? ⟨wr.heap.size + 1 + 1 + 1, 1, none⟩ = some (.int .i32 (2 * (m : Int) + 1)) := B4B.out.cell 1
          have fM := B4B.out.frozen
          have D0 : w4.cell? ⟨N, i * 2, none⟩ = some (D i) := by rw [B4N.out.cell, Nat.mul_comm]; exact (HR.out.dn i (Nat.le_refl _)).1
          have D1 : w4.cell? ⟨N, i * 2 + 1, none⟩ = some (.int .i32 (loc i)) := by rw [B4N.out.cell, Nat.mul_comm]; exact (HR.out.dn i (Nat.le_refl _)).2
          have ws : IntKind.i64.wrap ((m : Int) - 1) = (i : Int) := by rw [IntWalk.i64_in _ (by omega)]; have := HM.out; omega
          have hi1 : i < n + 1 := by omega
          obtain ⟨v1, hv1⟩ : ∃ v, an[m * 2]? = some v := ⟨_, Array.getElem?_eq_getElem (by rw [HR.out.sn]; omega)⟩
          obtain ⟨v2, hv2⟩ : ∃ v, an[m * 2 + 1]? = some v := ⟨_, Array.getElem?_eq_getElem (by rw [HR.out.sn]; omega)⟩
          have D2 : w4.cell? ⟨N, m * 2, none⟩ = some v1 := by rw [B4N.out.cell]; exact hv1
          have D3 : w4.cell? ⟨N, m * 2 + 1, none⟩ = some v2 := by rw [B4N.out.cell]; exact hv2
          have fN4 := B4N.out.frozen
          clear hv1 hv2
          have hi2 : (0 : Int) ≤ (i : Int) := by omega
          have hi3 : (i : Int) < (n : Int) + 1 := by omega
          have KP := Lib.hid (show ∀ w', Kp (wr.heap.size + 1 + 1 + 1) w4 w' → w'.cell? ⟨C, 0, none⟩ = some (.slice (some ⟨N, 0, none⟩) (n + 1) (n + 1)) ∧ w'.cell? ⟨N, i * 2, none⟩ = some (D i) ∧ w'.cell? ⟨N, i * 2 + 1, none⟩ = some (.int .i32 (loc i)) ∧ w'.cell? ⟨wr.heap.size, 0, none⟩ = some (.iface 46 (ptr (wr.heap.size + 1 + 1))) ∧ w'.cell? ⟨wr.heap.size, 1, none⟩ = some (.int .i32 (2 * (m : Int))) from fun w' h => ⟨h.cell (by omega) C0, h.cell (by omega) D0, h.cell (by omega) D1, h.cell (by omega) R0, h.cell (by omega) R1⟩)
          go_region_held3 (fun w' => w'.cell? ⟨C, 0, none⟩ = some (.slice (some ⟨N, 0, none⟩) (n + 1) (n + 1)) ∧ w'.cell? ⟨N, i * 2, none⟩ = some (D i) ∧ w'.cell? ⟨N, i * 2 + 1, none⟩ = some (.int .i32 (loc i)) ∧ w'.cell? ⟨wr.heap.size, 0, none⟩ = some (.iface 46 (ptr (wr.heap.size + 1 + 1))) ∧ w'.cell? ⟨wr.heap.size, 1, none⟩ = some (.int .i32 (2 * (m : Int)))) ((refine KP.out _ ?_; (repeat (with_reducible first | exact Kp.refl _ _ | refine Kp.drew ?_ | refine Kp.alloc ?_ _ | refine Kp.set ?_ _ _)))) (fail)
          go_wp2_with fail
          go_roundw
          case rel =>
            refine ⟨m + 1, i + 1, by omega, by go_num, by have := HM.out; omega, ?_⟩
            have q1 : N ≠ wr.heap.size + 1 + 1 + 1 := by omega
            have q2 : I ≠ wr.heap.size + 1 + 1 + 1 := by omega
            have q3 : C ≠ wr.heap.size + 1 + 1 + 1 := by omega
            have q4 : w.heap.size ≠ wr.heap.size + 1 + 1 + 1 := by omega
            have q5 : wr.heap.size ≠ wr.heap.size + 1 + 1 + 1 := by omega
            have q6 : w.heap.size ≠ N := by omega
            refine lp_step (E := w4.heap.size) HM.out hr0 hm hlt HT.out HR.out K3.out OP.out AS.out AX.out ?_ ?_ ?_ ?_ ?_ ?_ ?_
            · intro q t cs ht h
              have a1 : q ≠ wr.heap.size + 1 + 1 + 1 := h.ne B4B.out (by rcases ht with h | h | h <;> subst h <;> decide)
              have a2 : q ≠ N := h.ne B4N.out (by rcases ht with h | h | h <;> subst h <;> decide)
              (repeat (with_reducible first | exact h | refine Bk.drew ?_ | refine Bk.alloc ?_ _ | refine Bk.set ?_ a1 | refine Bk.set ?_ a2))
            · (repeat (with_reducible first | exact Bk.new' _ _ _ _ (by simp) | exact B4N.out | exact B4I.out | exact B4C.out | exact B40.out | refine Bk.drew ?_ | refine Bk.alloc ?_ _ | refine Bk.set ?_ (by omega) | refine Bk.setSelf ?_))
            · (repeat (with_reducible first | exact Bk.new' _ _ _ _ (by simp) | exact B4N.out | exact B4I.out | exact B4C.out | exact B40.out | refine Bk.drew ?_ | refine Bk.alloc ?_ _ | refine Bk.set ?_ (by omega) | refine Bk.setSelf ?_))
            · (repeat (with_reducible first | exact Bk.new' _ _ _ _ (by simp) | exact B4N.out | exact B4I.out | exact B4C.out | exact B40.out | refine Bk.drew ?_ | refine Bk.alloc ?_ _ | refine Bk.set ?_ (by omega) | refine Bk.setSelf ?_))
            · (repeat (with_reducible first | exact Bk.new' _ _ _ _ (by simp) | exact B4N.out | exact B4I.out | exact B4C.out | exact B40.out | refine Bk.drew ?_ | refine Bk.alloc ?_ _ | refine Bk.set ?_ (by omega) | refine Bk.setSelf ?_))
            · (repeat (with_reducible first | exact Bk.new' _ _ _ _ (by simp) | exact B4N.out | exact B4I.out | exact B4C.out | exact B40.out | refine Bk.drew ?_ | refine Bk.alloc ?_ _ | refine Bk.set ?_ (by omega) | refine Bk.setSelf ?_))
            · (repeat (with_reducible first | exact L4.out | refine Below.drew ?_ | refine Below.alloc ?_ (by first | (simp; done) | (simp <;> omega) | omega) _ | refine Below.setCell ?_ (by first | (simp; done) | (simp <;> omega) | omega) _))
          case measure => simp [intOf]; omega
    · have hi : i = n := by have := H.out.1; omega
      obtain ⟨D, G, Q, an, ai, ht, hr, hb0, hbC, hbl⟩ := H.out.2
      have C0 : wr.cell? ⟨C, 0, none⟩ = some (.slice (some ⟨N, 0, none⟩) (n + 1) (n + 1)) := hbC.cell 0
      have C1 : wr.cell? ⟨C, 1, none⟩ = some (.slice (some ⟨I, 0, none⟩) (n + 1) (n + 1)) := hbC.cell 1
      have r0 : wr.cell? ⟨w.heap.size, 0, none⟩ = some (.slice none 0 0) := hb0.cell 0
      have r1 : wr.cell? ⟨w.heap.size, 1, none⟩ = some (.slice none 0 0) := hb0.cell 1
      have fr := hb0.frozen
      have HR := Lib.hid hr
      have HT := Lib.hid ht
      have HC := Lib.hid hbC
      have HB0 := Lib.hid hb0
      have HBL := Lib.hid hbl
      have HI := Lib.hid hi
      clear hr ht hbC hb0 hbl hi
      go_wp2_with fail
      refine bodyPost_ret (v := .agg (chainCell N I n)) (by simp [results, Try.results5, go_sem, chainCell, *]) rfl ⟨D, G, Q, N, I, an, ai, rfl, ?_, ?_, ?_⟩
      · rw [← HI.out]
        refine HT.out.move fun q t cs ht h => ?_
        have a2 : q ≠ w.heap.size := h.ne HB0.out (by rcases ht with h | h | h <;> subst h <;> decide)
        (repeat (with_reducible first | exact h | refine Bk.set ?_ a2))
      · have hr := HR.out
        rw [HI.out] at hr
        exact ⟨(by repeat (first | exact hr.bn | refine Bk.set ?_ (by omega))), (by repeat (first | exact hr.bi | refine Bk.set ?_ (by omega))), hr.sn, hr.si, hr.dn, hr.d0, hr.di⟩
      · (repeat (with_reducible first | exact HBL.out | refine Below.setCell ?_ (by first | (simp; done) | (simp <;> omega) | omega) _))

end Go.Proofs.Ytbmmmgccmkompad
