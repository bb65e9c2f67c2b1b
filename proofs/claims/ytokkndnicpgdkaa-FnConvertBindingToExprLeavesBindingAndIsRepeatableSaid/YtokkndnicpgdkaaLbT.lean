/-
  The conversion of an object pattern; no statement of its own.
-/
import Derived.Test.YtokkndnicpgdkaaRows
import Derived.WalkKit
import Derived.ProofKit
import Derived.OpenShut
import Derived.Test.YtokkndnicpgdkaaSlW
import Derived.Test.YtokkndnicpgdkaaLbA
import Derived.Test.YtokkndnicpgdkaaLbR
import Derived.Test.YtokkndnicpgdkaaLbE
import Derived.Test.YtokkndnicpgdkaaCbW
import Derived.Test.YtokkndnicpgdkaaLbK
import Derived.Test.YtokkndnicpgdkaaLbB
import Derived.Test.YtokkndnicpgdkaaLbO
import Derived.Test.YtokkndnicpgdkaaLbQ
import Derived.WalkLawsBesides
import Derived.WalkSpells
import Derived.Below
import Derived.Lib.Hide
import Derived.Outline
import Derived.OwnWalk
import Derived.Laws.OwnMore
import Derived.Laws.MakeOwn
import Derived.RegionTactic
import Derived.Deep.QuietTactic
import Derived.BigQuiet
import Derived.Deep.Cut
import Derived.Deep.RegionHeld3
import Derived.LoopTactic
import Derived.Deep.MidRow
import Derived.Great.Walk
namespace Go.Proofs.Ytokkndnicpgdkaa
open Go.ChangeShapes Go.WideShapes Go.ChangeAt Go.RowKit

set_option linter.unusedVariables false

def zPy : Array Value := #[.pointer none, .nilIface, .int .i32 0, .nilIface, .int .i32 0, .nilIface, .int .i32 0, .slice none 0 0, .int .i32 0, .int .i32 0, .int .u8 0, .int .u8 0]
theorem info_py : (Try.prog.info? 102).map (fun i => (i.zero, i.size, i.bytes)) = some (some (.agg zPy), 12, 120) := by kernel_rfl
theorem info_pys : (Try.prog.info? 102).map (·.size) = some 12 := by kernel_rfl
theorem places_py : (match Try.prog.underlying 102 with
  | some (.struct fields) => fields.toList.mapM (fun f => (Try.prog.info? f.type).map fun i => (f.offset, i.size))
  | _ => none) = some [(0, 1), (1, 2), (3, 2), (5, 2), (7, 1), (8, 1), (9, 1), (10, 1), (11, 1)] := by kernel_rfl
theorem fill_py (kd fd : Int) (a b c d e f : Value) : Instr.fill (fun x => [(0, 1), (1, 2), (3, 2), (5, 2), (7, 1), (8, 1), (9, 1), (10, 1), (11, 1)][x]?) (Value.agg zPy).cells [(7, .int .u8 kd), (8, .int .u8 fd), (1, .agg #[a, b]), (2, .agg #[c, d]), (3, .agg #[e, f])] = some #[.pointer none, a, b, c, d, e, f, .slice none 0 0, .int .i32 0, .int .i32 0, .int .u8 kd, .int .u8 fd] := by
  kernel_rfl
theorem built_py (kd fd : Int) (a b c d e f : Value) : Try.prog.built 102 [(7, .int .u8 kd), (8, .int .u8 fd), (1, .agg #[a, b]), (2, .agg #[c, d]), (3, .agg #[e, f])] = some #[.pointer none, a, b, c, d, e, f, .slice none 0 0, .int .i32 0, .int .i32 0, .int .u8 kd, .int .u8 fd] := by
  have h1 := info_py
  have h2 := places_py
  unfold Program.built
  cases hi : Try.prog.info? 102 with
  | none => rw [hi] at h1; cases h1
  | some it =>
    rw [hi] at h1
    have hz : it.zero = some (.agg zPy) := by
      simp only [Option.map_some, Option.some.injEq, Prod.mk.injEq] at h1; exact h1.1
    cases hu : Try.prog.underlying 102 with
    | none => rw [hu] at h2; cases h2
    | some u =>
      cases u with
      | struct fields =>
        rw [hu] at h2
        simp only at h2
        simp only [hz, h2]
        exact fill_py kd fd a b c d e f
      | _ => rw [hu] at h2; simp at h2
theorem run_py (w : World) (kd fd : Int) (a b c d e f : Value) : (Instr.build 102 #[(7, .int .u8 kd), (8, .int .u8 fd), (1, .agg #[a, b]), (2, .agg #[c, d]), (3, .agg #[e, f])]).run Try.prog w = .ok (.agg #[.pointer none, a, b, c, d, e, f, .slice none 0 0, .int .i32 0, .int .i32 0, .int .u8 kd, .int .u8 fd]) w := run_build w 102 _ _ (built_py kd fd a b c d e f)
theorem build_step {ops : Array Oper} {rest : List Oper} {o : Oper} {a : Act} {w : World} {Q : Exit → Act → World → Prop} {kd fd : Int} {A B C D E F : Value} (hg : o.guard = none) (ho : o.op = .build 102 #[(7, .tmp 153), (8, .tmp 154), (1, .tmp 156), (2, .tmp 157), (3, .tmp 159)])
    (e1 : a.eval (.tmp 153) = .int .u8 kd) (e2 : a.eval (.tmp 154) = .int .u8 fd) (e3 : a.eval (.tmp 156) = .agg #[A, B]) (e4 : a.eval (.tmp 157) = .agg #[C, D]) (e5 : a.eval (.tmp 159) = .agg #[E, F])
    (h : wpList Try.prog ops Q rest (a.put o.dst (.agg #[.pointer none, A, B, C, D, E, F, .slice none 0 0, .int .i32 0, .int .i32 0, .int .u8 kd, .int .u8 fd])) w) : wpList Try.prog ops Q (o :: rest) a w := by
  have e : ((#[(7, .tmp 153), (8, .tmp 154), (1, .tmp 156), (2, .tmp 157), (3, .tmp 159)] : Array (Nat × Operand)).map fun (i, x) => (i, a.eval x)).toList = [(7, .int .u8 kd), (8, .int .u8 fd), (1, .agg #[A, B]), (2, .agg #[C, D]), (3, .agg #[E, F])] := by simp [e1, e2, e3, e4, e5]
  refine wpList_build hg 102 _ ho ?_ ?_
  · rw [e, built_py]; rfl
  · rw [e, built_py]; exact h
theorem all_one (a b c d e f g h i j k l : Value) (h1 : a.oneCell' = true) (h2 : b.oneCell' = true) (h3 : c.oneCell' = true) (h4 : d.oneCell' = true) (h5 : e.oneCell' = true) (h6 : f.oneCell' = true) (h7 : g.oneCell' = true) (h8 : h.oneCell' = true) (h9 : i.oneCell' = true) (h10 : j.oneCell' = true) (h11 : k.oneCell' = true) (h12 : l.oneCell' = true) : (#[a, b, c, d, e, f, g, h, i, j, k, l] : Array Value).all (·.oneCell') = true := by simp [h1, h2, h3, h4, h5, h6, h7, h8, h9, h10, h11, h12]
set_option maxRecDepth 100000 in
set_option maxHeartbeats 4000000 in
theorem obj_ok0 (sa : SerObjOk) : ObjOk0 := by
  intro lo hi w q l n0 K sg its n15 hlen hq hq1 hq2 hK1 hK2 hrow hkids hbound w1 ha hw
  have hqb := ha.bk hq hq1 hq2 (by decide)
  have q0 : w1.cell? ⟨q, 0, none⟩ = some (.slice (some ⟨K, 0, none⟩) n0 n0) := hqb.cell 0
  have q2 : w1.cell? ⟨q, 2, none⟩ = some (.bool sg) := hqb.cell 2
  have zq := hqb.lt
  have zq1 : q < w1.heap.size + 1 := by omega
  have zq2 : q < w1.heap.size + 1 + 1 := by omega
  have zq3 : q < w1.heap.size + 1 + 1 + 1 := by omega
  have zK : K < w1.heap.size := by omega
  have HQ := Lib.hid hqb
  have HROW := Lib.hid (hrow.move fun cs hb => ha.bk hb hK1 hK2 (by decide))
  have HA := Lib.hid ha
  have HKI := Lib.hid hkids
  have HLEN := Lib.hid hlen
  have HBO := Lib.hid hbound
  obtain ⟨i0, gi, gz0, gz1, gz2⟩ := info_three info_py
  have hmk := fun w : World => run_make (P := Try.prog) w 96 102 i0 (.agg zPy) Try.underlying96 gi gz0 .i64 .i64 n0 n0 (by omega) (by omega) (by rw [gz2]; omega) (by omega)
  simp only [gz1, Int.toNat_natCast] at hmk
  clear ha hq hqb hrow hkids hlen hbound gi gz0 gz1 gz2
  go_enter Try.func8, Try.ntmps8
  go_wp2_with fail
  clear hmk
  go_loopw [136] (fun v wr => ∃ (k : Nat) (xs : List Ko), k ≤ n0 ∧ v = .int .i64 k ∧ Hid (Co lo hi w1 (w1.heap.size + 1 + 1 + 1) n0 (l + 1) l its k xs wr)) (fun v _ => n0 - (intOf v).toNat)
  case atStart => as_aux_lemma =>
    refine ⟨0, [], by omega, rfl, ?_, fun i it h => by simp at h, rfl, rfl, ?_, ?_, ?_⟩
    · obtain ⟨arr, h1, h2, h3⟩ := Rw.made (((w1.alloc (.cells #[.iface 71 (ptr q), .int .i32 (l : Int)] 32)).alloc (.cells #[.nilIface, .int .i32 0] 42)).alloc (.cells #[.int .i32 (l : Int)] 30)) 102 n0 12 zPy rfl (by omega)
      rw [show (((w1.alloc (.cells #[.iface 71 (ptr q), .int .i32 (l : Int)] 32)).alloc (.cells #[.nilIface, .int .i32 0] 42)).alloc (.cells #[.int .i32 (l : Int)] 30)).heap.size = w1.heap.size + 1 + 1 + 1 by simp] at h1
      exact ⟨_, ⟨arr, h1, h2, h3⟩, fun i x h => by simp at h⟩
    · repeat (with_reducible first | exact Below.refl _ _ | refine Below.alloc ?_ (by first | (simp; done) | (simp <;> omega) | omega) _)
    · repeat (with_reducible first | exact Bk.new' _ _ _ _ (by simp) | refine Bk.alloc ?_ _)
    · repeat (with_reducible first | exact Bk.new' _ _ _ _ (by simp) | refine Bk.alloc ?_ _)
  case round =>
    obtain ⟨k, xs, hk, rfl, H⟩ := hrel
    by_cases hlt : k < n0
    · as_aux_lemma =>
      obtain ⟨it, hit⟩ : ∃ it, its[k]? = some it := ⟨_, List.getElem?_eq_getElem (by have := HLEN.out; omega)⟩
      obtain ⟨f, hrw, hf1, hf2⟩ := HROW.out.move fun cs hb => hb.later H.out.bl
      obtain ⟨⟨a0, a1, a4, a5, a8, a9⟩, a2, a3⟩ := hf1 k it hit
      obtain ⟨a6, a7, a10, -⟩ := hf2 k hlt
      have c0 := hrw.cell (i := k) (j := 0) hlt (by omega)
      have c1 := hrw.cell (i := k) (j := 1) hlt (by omega)
      have c2 := hrw.cell (i := k) (j := 2) hlt (by omega)
      have c3 := hrw.cell (i := k) (j := 3) hlt (by omega)
      have c4 := hrw.cell (i := k) (j := 4) hlt (by omega)
      have c5 := hrw.cell (i := k) (j := 5) hlt (by omega)
      have c6 := hrw.cell (i := k) (j := 6) hlt (by omega)
      have c7 := hrw.cell (i := k) (j := 7) hlt (by omega)
      have c8 := hrw.cell (i := k) (j := 8) hlt (by omega)
      have c9 := hrw.cell (i := k) (j := 9) hlt (by omega)
      have c10 := hrw.cell (i := k) (j := 10) hlt (by omega)
      rw [a0, Nat.add_zero] at c0
      rw [a1] at c1
      rw [a2] at c2
      rw [a3] at c3
      rw [a4] at c4
      rw [a5] at c5
      rw [a6] at c6
      rw [a7] at c7
      rw [a8] at c8
      rw [a9] at c9
      rw [a10] at c10
      have IT := Lib.hid (HKI.out k it hit)
      have HIT := Lib.hid hit
      obtain ⟨T, g, li, loi, hii, wsi, pti, kli, kgi, dgi⟩ := it
      simp only [Ko.d] at c0 c1 c2 c3 c4 c5 c6 c7 c8 c9 c10
      obtain ⟨dv, hdv⟩ : ∃ dv : Value, dv = (if dfO pti then Num dgi else .nilIface) := ⟨_, rfl⟩
      obtain ⟨dl, hdl⟩ : ∃ dl : Int, dl = (if dfO pti then (kli : Int) else 0) := ⟨_, rfl⟩
      obtain ⟨b1, hb1⟩ : ∃ b1, b1 = decide (pti % 2 = 1) := ⟨_, rfl⟩
      obtain ⟨b2, hb2⟩ : ∃ b2, b2 = decide (pti / 2 % 2 = 1) := ⟨_, rfl⟩
      rw [← hdv] at c4
      rw [← hdl] at c5
      rw [← hb2] at c8
      rw [← hb1] at c9
      have HDV := Lib.hid (And.intro hdv (And.intro hdl (And.intro hb1 hb2)))
      have zKr := hrw.lt
      have szr := H.out.bl.size
      have bq := HQ.out.later H.out.bl
      have q0 : wr.cell? ⟨q, 0, none⟩ = some (.slice (some ⟨K, 0, none⟩) n0 n0) := bq.cell 0
      have zqr := bq.lt
      have hcase : dv = .nilIface ∨ dv = Num dgi := by rw [hdv]; cases dfO pti <;> simp
      clear hrw hf1 hf2 a0 a1 a2 a3 a4 a5 a6 a7 a8 a9 a10 hit bq hdv hdl hb1 hb2
      rcases hcase with rfl | rfl
      · as_aux_lemma =>
        go_wp2_with fail
        refine (IT.out.2.1 (wr.alloc (.cells #[.iface 65 (ptr kgi), .int .i32 (kli : Int), .iface T (ptr g), .int .i32 (li : Int), .nilIface, .int .i32 dl, .int .i32 0, .int .i32 0, .bool b2, .bool b1, .bool false] 70)) ?_ ?_).mono ?_
        · exact ((HA.out.sub IT.out.1.2.2.2.2.2.2.2.1 IT.out.1.2.2.2.2.2.2.2.2).trans (agreeT_below H.out.bl (by have := IT.out.1.2.2.2.2.2.2.2.2; show hii ≤ _; have h9 : hii ≤ hi := this; omega))).trans (agreeT_alloc _ _)
        · have h9 : hii ≤ hi := IT.out.1.2.2.2.2.2.2.2.2
          show hii ≤ _
          simp; omega
        rintro e w5 ⟨T', g', rfl, hb5, hT', hser⟩
        simp at hb5
        have hz5 := hb5.size
        simp at hz5
        obtain ⟨w6, hw6⟩ : ∃ x : World, x = w5.alloc (.cells #[.iface T' (ptr g'), .int .i32 (li : Int)] 42) := ⟨_, rfl⟩
        have z6 : w6.heap.size = w5.heap.size + 1 := by rw [hw6]; simp
        have M6 := Lib.hid (show ∀ g t cs, Bk wr g t cs → Bk w6 g t cs from fun g t cs h => by rw [hw6]; exact ((h.alloc _).below hb5 (by have := h.lt; omega)).alloc _)
        obtain ⟨f2, hrw2, -⟩ := H.out.row.move fun cs hb => M6.out _ _ _ hb
        have hth := hrw2.there hlt
        have hfr := hrw2.frozen
        have bx : Bk w6 wr.heap.size 70 #[.iface 65 (ptr kgi), .int .i32 (kli : Int), .iface T (ptr g), .int .i32 (li : Int), .nilIface, .int .i32 dl, .int .i32 0, .int .i32 0, .bool b2, .bool b1, .bool false] := by rw [hw6]; exact ((Bk.new _ _ _).below hb5 (by omega)).alloc _
        have x0 : w6.cell? ⟨wr.heap.size, 0, none⟩ = some (.iface 65 (ptr kgi)) := bx.cell 0
        have x1 : w6.cell? ⟨wr.heap.size, 1, none⟩ = some (.int .i32 (kli : Int)) := bx.cell 1
        have x4 : w6.cell? ⟨wr.heap.size, 4, none⟩ = some .nilIface := bx.cell 4
        have x5 : w6.cell? ⟨wr.heap.size, 5, none⟩ = some (.int .i32 dl) := bx.cell 5
        have x8 : w6.cell? ⟨wr.heap.size, 8, none⟩ = some (.bool b2) := bx.cell 8
        have x9 : w6.cell? ⟨wr.heap.size, 9, none⟩ = some (.bool b1) := bx.cell 9
        have by6 : Bk w6 w5.heap.size 42 #[.iface T' (ptr g'), .int .i32 (li : Int)] := by rw [hw6]; exact Bk.new _ _ _
        have y0 : w6.cell? ⟨w5.heap.size, 0, none⟩ = some (.iface T' (ptr g')) := by6.cell 0
        have y1 : w6.cell? ⟨w5.heap.size, 1, none⟩ = some (.int .i32 (li : Int)) := by6.cell 1
        have hser' := hser.out.wide IT.out.1.2.2.2.2.2.2.2.1 IT.out.1.2.2.2.2.2.2.2.2
        rw [show (wr.alloc (.cells #[.iface 65 (ptr kgi), .int .i32 (kli : Int), .iface T (ptr g), .int .i32 (li : Int), .nilIface, .int .i32 dl, .int .i32 0, .int .i32 0, .bool b2, .bool b1, .bool false] 70)).heap.size = wr.heap.size + 1 by simp] at hser'
        have HSER : Hid (Ser lo hi (wr.heap.size + 1) w5.heap.size w6 (.iface T' (ptr g')) li wsi) := hser'.agree (by rw [hw6]; exact agreeT_alloc _ _) (by rw [hw6]; exact agreeT_alloc _ _)
        have zK2r : w1.heap.size + 1 + 1 + 1 < wr.heap.size := by obtain ⟨cs, h⟩ := H.out.row.bk; exact h.lt
        have B6 : Hid (Below w1.heap.size w1 w6) := by rw [hw6]; exact Lib.hid ((H.out.bl.trans (((Below.refl w1.heap.size wr).alloc szr _).trans (hb5.mono (by omega)))).alloc (by omega) _)
        have AW : Hid (∀ lo', AgreeT lo' wr.heap.size wr w6) := by rw [hw6]; exact Lib.hid (fun lo' => ((agreeT_alloc wr (.cells #[.iface 65 (ptr kgi), .int .i32 (kli : Int), .iface T (ptr g), .int .i32 (li : Int), .nilIface, .int .i32 dl, .int .i32 0, .int .i32 0, .bool b2, .bool b1, .bool false] 70)).trans (agreeT_below hb5 (by omega))).trans (agreeT_alloc _ _))
        have zx6 : wr.heap.size < w6.heap.size := by omega
        have zy6 : w5.heap.size < w6.heap.size := by omega
        have zq6 : q < w6.heap.size := by omega
        clear hser' hser hT' hrw2 bx by6 c0 c1 c2 c3 c4 c5 c6 c7 c8 c9 c10 q0 hb5
        obtain ⟨kd, hkd⟩ : ∃ kd : Int, kd = if b1 then 5 else 0 := ⟨_, rfl⟩
        obtain ⟨fd, hfd⟩ : ∃ fd : Int, fd = if b2 then 1 else 0 := ⟨_, rfl⟩
        have HKF := Lib.hid (And.intro hkd hfd)
        clear hkd hfd
        have ob : bits .or .u8 0 1 = 1 := by decide
        go_upto_region 34 with fail
        rw [← hw6]
        clear hw6
        go_upto_if 146 with fail
        go_cut [18] from 137 to 162 (fun s wx => s = .int .u8 kd ∧ wx = w6)
        case first => as_aux_lemma =>
          cases b1
          · go_wp2_with fail
            go_meet
            case rel => exact ⟨by rw [HKF.out.1]; rfl, rfl⟩
          · go_wp2_with fail
            go_meet
            case rel => exact ⟨by rw [HKF.out.1]; rfl, rfl⟩
        as_aux_lemma =>
          obtain ⟨rfl, rfl⟩ := hcut
          obtain ⟨w6, rfl⟩ : ∃ x : World, x = wc := ⟨_, rfl⟩
          go_upto_if 148 with fail
          go_cut [19] from 137 to 162 (fun s wx => s = .int .u8 fd ∧ wx = w6)
          case first => as_aux_lemma =>
            cases b2
            · go_wp2_with fail
              go_meet
              case rel => exact ⟨by rw [HKF.out.2]; rfl, rfl⟩
            · go_wp2_with fail
              go_meet
              case rel => exact ⟨by rw [HKF.out.2]; rfl, rfl⟩
          as_aux_lemma =>
            obtain ⟨rfl, rfl⟩ := hcut
            obtain ⟨w6, rfl⟩ : ∃ x : World, x = wc := ⟨_, rfl⟩
            go_upto_region 40 with fail
            have hps := info_pys
            iterate 28 go_step
            refine build_step rfl rfl rfl rfl rfl rfl rfl ?_
            iterate 3 go_step
            refine wpList_store_mid rfl 102 (.tmp 161) (.tmp 160) rfl (w1.heap.size + 1 + 1 + 1) (k * 12) #[.pointer none, Num kgi, .int .i32 (kli : Int), .iface T' (ptr g'), .int .i32 (li : Int), .nilIface, .int .i32 dl, .slice none 0 0, .int .i32 0, .int .i32 0, .int .u8 kd, .int .u8 fd] rfl rfl hth hps (all_one _ _ _ _ _ _ _ _ _ _ _ _ rfl rfl rfl rfl rfl rfl rfl rfl rfl rfl rfl rfl) ?_
            clear hth hps hfr
            go_wp2_with fail
            go_roundw
            case rel =>
              have hlk : loi = loi := rfl
              have hii9 : hii ≤ hi := IT.out.1.2.2.2.2.2.2.2.2
              refine ⟨k + 1, xs ++ [⟨T', g', li, wr.heap.size + 1, w5.heap.size, wsi, pti, kli, kgi, dgi⟩], by omega, by go_num, Lib.hid ⟨?_, ?_, by simp [H.out.len], ?_, ?_, ?_, ?_⟩⟩
              · exact RowP.cells (H.out.row.move fun cs hb => M6.out _ _ _ hb) H.out.len hlt ⟨T', g', li, wr.heap.size + 1, w5.heap.size, wsi, pti, kli, kgi, dgi⟩ .nilIface (.int .i32 dl) (.int .u8 kd) (.int .u8 fd) HDV.out.1 (by rw [HDV.out.2.1]) (by rw [HKF.out.1, HDV.out.2.2.1]; simp) (by rw [HKF.out.2, HDV.out.2.2.2]; simp)
              · refine FieldsOk.snoc (H.out.flds.move (by rw [size_cells]; omega) (((AW.out lo).sub (Nat.le_refl _) (by omega)).trans (agreeT_cells (by omega) _ _ _)) ((AW.out _).trans (agreeT_cells (by omega) _ _ _))) ⟨?_, IT.out.1.2.1, IT.out.1.2.2.1, ⟨IT.out.1.2.2.2.1, IT.out.1.2.2.2.2.1, ?_⟩, fun hd => ?_, by show _ ≤ wr.heap.size + 1; omega, by show w5.heap.size ≤ _; rw [size_cells]; omega⟩ (show Ser lo hi (wr.heap.size + 1) w5.heap.size _ (.iface T' (ptr g')) li wsi from HSER.out.agree (agreeT_cells (by omega) _ _ _) (agreeT_cells (by omega) _ _ _))
                · rw [List.take_length, H.out.wse]; exact IT.out.1.1
                · have h4 := IT.out.1.2.2.2.2.1
                  exact Bk.cells (by show kgi ≠ _; have h5 : kgi < hi := h4; omega) _ _ _ (M6.out _ _ _ ((HA.out.bk IT.out.1.2.2.2.2.2.1 IT.out.1.2.2.2.1 IT.out.1.2.2.2.2.1 (by decide)).later H.out.bl))
                · obtain ⟨c1, c2, c3⟩ := IT.out.1.2.2.2.2.2.2.1 hd
                  exact ⟨c1, c2, Bk.cells (by show dgi ≠ _; have h5 : dgi < hi := c2; omega) _ _ _ (M6.out _ _ _ ((HA.out.bk c3 c1 c2 (by decide)).later H.out.bl))⟩
              · rw [wsO_snoc, wsO_take its k _ HIT.out, H.out.wse]
              · exact below_cells (by omega) _ _ _ B6.out
              · exact Bk.cells (by omega) _ _ _ (M6.out _ _ _ H.out.rb)
              · exact Bk.cells (by omega) _ _ _ (M6.out _ _ _ H.out.lb)
            case measure => simp [intOf]; omega
      · as_aux_lemma =>
        go_wp2_with fail
        refine (IT.out.2.1 (wr.alloc (.cells #[.iface 65 (ptr kgi), .int .i32 (kli : Int), .iface T (ptr g), .int .i32 (li : Int), (Num dgi), .int .i32 dl, .int .i32 0, .int .i32 0, .bool b2, .bool b1, .bool false] 70)) ?_ ?_).mono ?_
        · exact ((HA.out.sub IT.out.1.2.2.2.2.2.2.2.1 IT.out.1.2.2.2.2.2.2.2.2).trans (agreeT_below H.out.bl (by have := IT.out.1.2.2.2.2.2.2.2.2; show hii ≤ _; have h9 : hii ≤ hi := this; omega))).trans (agreeT_alloc _ _)
        · have h9 : hii ≤ hi := IT.out.1.2.2.2.2.2.2.2.2
          show hii ≤ _
          simp; omega
        rintro e w5 ⟨T', g', rfl, hb5, hT', hser⟩
        simp at hb5
        have hz5 := hb5.size
        simp at hz5
        obtain ⟨w6, hw6⟩ : ∃ x : World, x = w5.alloc (.cells #[.iface T' (ptr g'), .int .i32 (li : Int)] 42) := ⟨_, rfl⟩
        have z6 : w6.heap.size = w5.heap.size + 1 := by rw [hw6]; simp
        have M6 := Lib.hid (show ∀ g t cs, Bk wr g t cs → Bk w6 g t cs from fun g t cs h => by rw [hw6]; exact ((h.alloc _).below hb5 (by have := h.lt; omega)).alloc _)
        obtain ⟨f2, hrw2, -⟩ := H.out.row.move fun cs hb => M6.out _ _ _ hb
        have hth := hrw2.there hlt
        have hfr := hrw2.frozen
        have bx : Bk w6 wr.heap.size 70 #[.iface 65 (ptr kgi), .int .i32 (kli : Int), .iface T (ptr g), .int .i32 (li : Int), (Num dgi), .int .i32 dl, .int .i32 0, .int .i32 0, .bool b2, .bool b1, .bool false] := by rw [hw6]; exact ((Bk.new _ _ _).below hb5 (by omega)).alloc _
        have x0 : w6.cell? ⟨wr.heap.size, 0, none⟩ = some (.iface 65 (ptr kgi)) := bx.cell 0
        have x1 : w6.cell? ⟨wr.heap.size, 1, none⟩ = some (.int .i32 (kli : Int)) := bx.cell 1
        have x4 : w6.cell? ⟨wr.heap.size, 4, none⟩ = some (Num dgi) := bx.cell 4
        have x5 : w6.cell? ⟨wr.heap.size, 5, none⟩ = some (.int .i32 dl) := bx.cell 5
        have x8 : w6.cell? ⟨wr.heap.size, 8, none⟩ = some (.bool b2) := bx.cell 8
        have x9 : w6.cell? ⟨wr.heap.size, 9, none⟩ = some (.bool b1) := bx.cell 9
        have by6 : Bk w6 w5.heap.size 42 #[.iface T' (ptr g'), .int .i32 (li : Int)] := by rw [hw6]; exact Bk.new _ _ _
        have y0 : w6.cell? ⟨w5.heap.size, 0, none⟩ = some (.iface T' (ptr g')) := by6.cell 0
        have y1 : w6.cell? ⟨w5.heap.size, 1, none⟩ = some (.int .i32 (li : Int)) := by6.cell 1
        have hser' := hser.out.wide IT.out.1.2.2.2.2.2.2.2.1 IT.out.1.2.2.2.2.2.2.2.2
        rw [show (wr.alloc (.cells #[.iface 65 (ptr kgi), .int .i32 (kli : Int), .iface T (ptr g), .int .i32 (li : Int), (Num dgi), .int .i32 dl, .int .i32 0, .int .i32 0, .bool b2, .bool b1, .bool false] 70)).heap.size = wr.heap.size + 1 by simp] at hser'
        have HSER : Hid (Ser lo hi (wr.heap.size + 1) w5.heap.size w6 (.iface T' (ptr g')) li wsi) := hser'.agree (by rw [hw6]; exact agreeT_alloc _ _) (by rw [hw6]; exact agreeT_alloc _ _)
        have zK2r : w1.heap.size + 1 + 1 + 1 < wr.heap.size := by obtain ⟨cs, h⟩ := H.out.row.bk; exact h.lt
        have B6 : Hid (Below w1.heap.size w1 w6) := by rw [hw6]; exact Lib.hid ((H.out.bl.trans (((Below.refl w1.heap.size wr).alloc szr _).trans (hb5.mono (by omega)))).alloc (by omega) _)
        have AW : Hid (∀ lo', AgreeT lo' wr.heap.size wr w6) := by rw [hw6]; exact Lib.hid (fun lo' => ((agreeT_alloc wr (.cells #[.iface 65 (ptr kgi), .int .i32 (kli : Int), .iface T (ptr g), .int .i32 (li : Int), (Num dgi), .int .i32 dl, .int .i32 0, .int .i32 0, .bool b2, .bool b1, .bool false] 70)).trans (agreeT_below hb5 (by omega))).trans (agreeT_alloc _ _))
        have zx6 : wr.heap.size < w6.heap.size := by omega
        have zy6 : w5.heap.size < w6.heap.size := by omega
        have zq6 : q < w6.heap.size := by omega
        clear hser' hser hT' hrw2 bx by6 c0 c1 c2 c3 c4 c5 c6 c7 c8 c9 c10 q0 hb5
        obtain ⟨kd, hkd⟩ : ∃ kd : Int, kd = if b1 then 5 else 0 := ⟨_, rfl⟩
        obtain ⟨fd, hfd⟩ : ∃ fd : Int, fd = if b2 then 1 else 0 := ⟨_, rfl⟩
        have HKF := Lib.hid (And.intro hkd hfd)
        clear hkd hfd
        have ob : bits .or .u8 0 1 = 1 := by decide
        go_upto_region 34 with fail
        rw [← hw6]
        clear hw6
        go_upto_if 146 with fail
        go_cut [18] from 137 to 162 (fun s wx => s = .int .u8 kd ∧ wx = w6)
        case first => as_aux_lemma =>
          cases b1
          · go_wp2_with fail
            go_meet
            case rel => exact ⟨by rw [HKF.out.1]; rfl, rfl⟩
          · go_wp2_with fail
            go_meet
            case rel => exact ⟨by rw [HKF.out.1]; rfl, rfl⟩
        as_aux_lemma =>
          obtain ⟨rfl, rfl⟩ := hcut
          obtain ⟨w6, rfl⟩ : ∃ x : World, x = wc := ⟨_, rfl⟩
          go_upto_if 148 with fail
          go_cut [19] from 137 to 162 (fun s wx => s = .int .u8 fd ∧ wx = w6)
          case first => as_aux_lemma =>
            cases b2
            · go_wp2_with fail
              go_meet
              case rel => exact ⟨by rw [HKF.out.2]; rfl, rfl⟩
            · go_wp2_with fail
              go_meet
              case rel => exact ⟨by rw [HKF.out.2]; rfl, rfl⟩
          as_aux_lemma =>
            obtain ⟨rfl, rfl⟩ := hcut
            obtain ⟨w6, rfl⟩ : ∃ x : World, x = wc := ⟨_, rfl⟩
            go_upto_region 40 with fail
            have hps := info_pys
            iterate 28 go_step
            refine build_step rfl rfl rfl rfl rfl rfl rfl ?_
            iterate 3 go_step
            refine wpList_store_mid rfl 102 (.tmp 161) (.tmp 160) rfl (w1.heap.size + 1 + 1 + 1) (k * 12) #[.pointer none, Num kgi, .int .i32 (kli : Int), .iface T' (ptr g'), .int .i32 (li : Int), (Num dgi), .int .i32 dl, .slice none 0 0, .int .i32 0, .int .i32 0, .int .u8 kd, .int .u8 fd] rfl rfl hth hps (all_one _ _ _ _ _ _ _ _ _ _ _ _ rfl rfl rfl rfl rfl rfl rfl rfl rfl rfl rfl rfl) ?_
            clear hth hps hfr
            go_wp2_with fail
            go_roundw
            case rel =>
              have hlk : loi = loi := rfl
              have hii9 : hii ≤ hi := IT.out.1.2.2.2.2.2.2.2.2
              refine ⟨k + 1, xs ++ [⟨T', g', li, wr.heap.size + 1, w5.heap.size, wsi, pti, kli, kgi, dgi⟩], by omega, by go_num, Lib.hid ⟨?_, ?_, by simp [H.out.len], ?_, ?_, ?_, ?_⟩⟩
              · exact RowP.cells (H.out.row.move fun cs hb => M6.out _ _ _ hb) H.out.len hlt ⟨T', g', li, wr.heap.size + 1, w5.heap.size, wsi, pti, kli, kgi, dgi⟩ (Num dgi) (.int .i32 dl) (.int .u8 kd) (.int .u8 fd) HDV.out.1 (by rw [HDV.out.2.1]) (by rw [HKF.out.1, HDV.out.2.2.1]; simp) (by rw [HKF.out.2, HDV.out.2.2.2]; simp)
              · refine FieldsOk.snoc (H.out.flds.move (by rw [size_cells]; omega) (((AW.out lo).sub (Nat.le_refl _) (by omega)).trans (agreeT_cells (by omega) _ _ _)) ((AW.out _).trans (agreeT_cells (by omega) _ _ _))) ⟨?_, IT.out.1.2.1, IT.out.1.2.2.1, ⟨IT.out.1.2.2.2.1, IT.out.1.2.2.2.2.1, ?_⟩, fun hd => ?_, by show _ ≤ wr.heap.size + 1; omega, by show w5.heap.size ≤ _; rw [size_cells]; omega⟩ (show Ser lo hi (wr.heap.size + 1) w5.heap.size _ (.iface T' (ptr g')) li wsi from HSER.out.agree (agreeT_cells (by omega) _ _ _) (agreeT_cells (by omega) _ _ _))
                · rw [List.take_length, H.out.wse]; exact IT.out.1.1
                · have h4 := IT.out.1.2.2.2.2.1
                  exact Bk.cells (by show kgi ≠ _; have h5 : kgi < hi := h4; omega) _ _ _ (M6.out _ _ _ ((HA.out.bk IT.out.1.2.2.2.2.2.1 IT.out.1.2.2.2.1 IT.out.1.2.2.2.2.1 (by decide)).later H.out.bl))
                · obtain ⟨c1, c2, c3⟩ := IT.out.1.2.2.2.2.2.2.1 hd
                  exact ⟨c1, c2, Bk.cells (by show dgi ≠ _; have h5 : dgi < hi := c2; omega) _ _ _ (M6.out _ _ _ ((HA.out.bk c3 c1 c2 (by decide)).later H.out.bl))⟩
              · rw [wsO_snoc, wsO_take its k _ HIT.out, H.out.wse]
              · exact below_cells (by omega) _ _ _ B6.out
              · exact Bk.cells (by omega) _ _ _ (M6.out _ _ _ H.out.rb)
              · exact Bk.cells (by omega) _ _ _ (M6.out _ _ _ H.out.lb)
            case measure => simp [intOf]; omega
    · as_aux_lemma =>
      have bq := HQ.out.later H.out.bl
      have q3 : wr.cell? ⟨q, 2, none⟩ = some (.bool sg) := bq.cell 2
      have l0 : wr.cell? ⟨w1.heap.size + 1 + 1, 0, none⟩ = some (.int .i32 (l : Int)) := H.out.lb.cell 0
      have r0 : wr.cell? ⟨w1.heap.size + 1, 0, none⟩ = some .nilIface := H.out.rb.cell 0
      have r1 : wr.cell? ⟨w1.heap.size + 1, 1, none⟩ = some (.int .i32 0) := H.out.rb.cell 1
      have fr := H.out.rb.frozen
      have zqr := bq.lt
      have zr := H.out.rb.lt
      have zl := H.out.lb.lt
      have szr := H.out.bl.size
      have kn : k = n0 := by omega
      have KN := Lib.hid kn
      have zK2 : w1.heap.size + 1 + 1 + 1 < wr.heap.size := by obtain ⟨cs, h⟩ := H.out.row.bk; exact h.lt
      have KP := Lib.hid (show ∀ w', Kp (w1.heap.size + 1) wr w' → w'.cell? ⟨w1.heap.size + 1 + 1, 0, none⟩ = some (.int .i32 (l : Int)) ∧ w'.cell? ⟨q, 2, none⟩ = some (.bool sg) from fun w' h => ⟨h.cell (by omega) l0, h.cell (by omega) q3⟩)
      clear kn bq
      go_wp2_with fail
      go_region_held3 (fun w' => w'.cell? ⟨w1.heap.size + 1 + 1, 0, none⟩ = some (.int .i32 (l : Int)) ∧ w'.cell? ⟨q, 2, none⟩ = some (.bool sg)) ((refine KP.out _ ?_; (repeat (first | exact Kp.refl _ _ | refine Kp.drew ?_ | refine Kp.alloc ?_ _ | refine Kp.set ?_ _ _)))) (fail)
      go_wp2_with fail
      refine bodyPost_ret (v := .agg #[.iface 103 (ptr wr.heap.size), .int .i32 (l : Int)]) (by simp [results, Try.results8, go_sem, *]) rfl ⟨_, _, rfl, ?_, by decide, ?_⟩
      · repeat (with_reducible first | exact H.out.bl | refine Below.drew ?_ | refine Below.alloc ?_ (by first | (simp; done) | (simp <;> omega) | omega) _ | refine Below.setCell ?_ (by first | (simp; done) | (simp <;> omega) | omega) _)
      · have hl := H.out.len
        have e1 : wsO its = wsO xs := by rw [H.out.wse, KN.out, ← HLEN.out, List.take_length]
        have hb := HBO.out
        rw [e1] at hb ⊢
        refine Lib.hid (sa lo hi w1.heap.size _ _ wr.heap.size l n0 (w1.heap.size + 1 + 1 + 1) sg xs n15 (by have := KN.out; omega) ?_ (by omega) (by simp) (by omega) (by simp; omega) ?_ ?_ hb)
        · repeat (with_reducible first | exact Bk.new' _ _ _ _ (by simp) | refine Bk.drew ?_ | refine Bk.alloc ?_ _ | refine Bk.set ?_ (by omega))
        · refine H.out.row.move fun cs' hb => ?_
          repeat (with_reducible first | exact hb | refine Bk.drew ?_ | refine Bk.alloc ?_ _ | refine Bk.set ?_ (by omega))
        · refine (H.out.flds.move (hi' := _) (by simp) ?_ ?_).mono (by omega)
          · show AgreeT _ _ wr _
            exact ((agreeT_set wr (by omega)).trans (agreeT_set _ (by omega))).trans (agreeT_alloc _ _)
          show AgreeT _ _ wr _
          exact ((agreeT_set wr (.inl (by omega))).trans (agreeT_set _ (.inl (by omega)))).trans (agreeT_alloc _ _)

end Go.Proofs.Ytokkndnicpgdkaa
