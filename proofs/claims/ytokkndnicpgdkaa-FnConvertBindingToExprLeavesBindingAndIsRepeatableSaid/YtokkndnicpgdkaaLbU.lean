/-
  The serialiser on an object expression, walked; no statement of its own.
-/
import Derived.Test.YtokkndnicpgdkaaRows
import Derived.WalkKit
import Derived.ProofKit
import Derived.OpenShut
import Derived.Test.YtokkndnicpgdkaaSlW
import Derived.Test.YtokkndnicpgdkaaLbA
import Derived.Test.YtokkndnicpgdkaaLbR
import Derived.Test.YtokkndnicpgdkaaLbE
import Derived.Test.YtokkndnicpgdkaaCbW
import Derived.Test.YtokkndnicpgdkaaLbK
import Derived.Test.YtokkndnicpgdkaaLbB
import Derived.Test.YtokkndnicpgdkaaLbO
import Derived.Test.YtokkndnicpgdkaaLbQ
import Derived.Test.YtokkndnicpgdkaaFltM
import Derived.Test.YtokkndnicpgdkaaLbV
import Derived.WalkLawsBesides
import Derived.WalkSpells
import Derived.Below
import Derived.Lib.Hide
import Derived.Outline
import Derived.OwnWalk
import Derived.Laws.OwnMore
import Derived.Maps.AppendAt
import Derived.RegionTactic
import Derived.Deep.QuietTactic
import Derived.BigQuiet
import Derived.Deep.Cut
import Derived.LoopTactic
import Derived.Laws.StructEq
namespace Go.Proofs.Ytokkndnicpgdkaa
open Go.ChangeShapes Go.WideShapes Go.ChangeAt Go.RowKit

set_option linter.unusedVariables false

structure StopU (p : Prop) : Prop where
  out : p
theorem hold_at_u {P : Program} {ops : Array Oper} {Q : Exit → Act → World → Prop} {l : List Oper} {a : Act} {w : World} (h : StopU (wpList P ops Q l a w)) : wpList P ops Q l a w := h.out
theorem guardL1 : Try.prog.eqGuardType Try.prog.depth 30 = false := by kernel_rfl
theorem or_four_u (p m : Nat) (hp : p < 4) (hm : m < 536870912) : bits .or .u32 ((p + 8 * m : Nat) : Int) 4 = ((p + 8 * m + 4 : Nat) : Int) := by
  have h1 := or_low p m 3 (by omega) (by omega) (by omega)
  have h2 := or_low 4 0 3 (by omega) (by omega) (by omega)
  have e : (p + 8 * m) ||| 4 = p + 8 * m + 4 := by
    have e1 : p + 8 * m = 2 ^ 3 * m + p := by omega
    have e2 : 2 ^ 3 * m + p = 2 ^ 3 * m ||| p := Nat.two_pow_add_eq_or_of_lt (by omega) m
    have e3 : p ||| 4 = p + 4 := by
      have : p = 0 ∨ p = 1 ∨ p = 2 ∨ p = 3 := by omega
      rcases this with rfl | rfl | rfl | rfl <;> rfl
    have e4 : 2 ^ 3 * m + (p + 4) = 2 ^ 3 * m ||| (p + 4) := Nat.two_pow_add_eq_or_of_lt (by omega) m
    rw [e1, e2, Nat.or_assoc, e3, ← e4]; omega
  have h3 := u32_or_nat (p + 8 * m) 4 (by omega) (by omega)
  rw [e] at h3
  exact h3
theorem guardL0 : Try.prog.eqGuardType Try.prog.depth 30 = false := by kernel_rfl
set_option maxRecDepth 100000 in
set_option maxHeartbeats 4000000 in
theorem ser_obj_ok0 : SerObjOk0 := by
  intro lo0 hi0 lo hi w q l n0 K sg its n15 hlen hq hq1 hq2 hK1 hK2 hrow hitems hbound
  intro B va vc xs w1 hB0 hB hB1 ha hown hl hlen2
  subst hl
  have hqb := ha.bk hq hq1 hq2 (by decide)
  have zq := hqb.lt
  have zK : K < w1.heap.size := by omega
  have HQ := Lib.hid hqb
  have HROW := Lib.hid (hrow.move fun cs hb => ha.bk hb hK1 hK2 (by decide))
  have HA := Lib.hid ha
  have HIT := Lib.hid hitems
  have HLEN := Lib.hid hlen
  have HBO := Lib.hid hbound
  have HOWN := Lib.hid hown
  have HL2 := Lib.hid hlen2
  obtain ⟨c0, hc0⟩ : ∃ c0, c0 = 3 + 4 * n0 := ⟨_, rfl⟩
  obtain ⟨c128, hc128⟩ : ∃ c128, c128 = c0 + 128 := ⟨_, rfl⟩
  obtain ⟨c2, hc2⟩ : ∃ c2, c2 = if sg then c128 else c0 := ⟨_, rfl⟩
  have o2 : bits .or .u32 3 ((n0 : Int) * 4) = (c0 : Int) := by
    have h := or_low 3 n0 2 (by omega) (by omega) (by omega)
    rw [show (n0 : Int) * 4 = ((2 ^ 2 * n0 : Nat) : Int) by omega, show (3 : Int) = ((3 : Nat) : Int) from rfl, h]; omega
  have c0b : c0 < 128 := by omega
  have o128 : bits .or .u32 (c0 : Int) 128 = (c128 : Int) := by
    have h := or_low c0 1 7 (by omega) (by omega) (by omega)
    rw [show (128 : Int) = ((2 ^ 7 * 1 : Nat) : Int) from rfl, h]; omega
  have EH := Lib.hid (show c2 = hdrO n0 sg by unfold hdrO; rw [hc2, hc128, hc0]; cases sg <;> simp)
  have HC2 := Lib.hid hc2
  have q0 : w1.cell? ⟨q, 0, none⟩ = some (.slice (some ⟨K, 0, none⟩) n0 n0) := hqb.cell 0
  have q3 : w1.cell? ⟨q, 3, none⟩ = some (.bool sg) := hqb.cell 3
  have hxl : xs.length ≤ 1000000 := by omega
  obtain ⟨i0, hi0, hz0, hz1, hz2⟩ := info_three info_w
  have HB0 := Lib.hid hB0
  clear hB0 ha hq hqb hrow hitems hlen hbound hown hc0 hc128 hc2 hlen2
  go_enter Try.func9, Try.ntmps9
  go_upto_if 220 with fail
  obtain ⟨w2, hw2⟩ : ∃ w2, w2 = w1.alloc (.cells #[.iface 103 (ptr q), .int .i32 (xs.length : Int)] 42) := ⟨_, rfl⟩
  rw [← hw2]
  have L2 : Hid (Below B w1 w2) := by rw [hw2]; exact Lib.hid ((Below.refl _ _).alloc hB1 _)
  have L3 : Hid (Below w1.heap.size w1 w2) := by rw [hw2]; exact Lib.hid ((Below.refl _ _).alloc (Nat.le_refl _) _)
  have O2 : Hid (w2.ownsRow B 48 1 (.slice va xs.length vc) xs.length (words xs)) := by rw [hw2]; exact Lib.hid (HOWN.out.alloc _)
  have Q2 : Hid (Bk w2 q 105 #[.slice (some ⟨K, 0, none⟩) n0 n0, .int .i32 0, .int .i32 0, .bool sg, .bool false]) := HQ.out.later L3.out
  have q0 : w2.cell? ⟨q, 0, none⟩ = some (.slice (some ⟨K, 0, none⟩) n0 n0) := Q2.out.cell 0
  have b2 : B ≤ w2.heap.size := by have := L2.out.size; omega
  have zq2 := Q2.out.lt
  clear hw2
  go_cut [24] from 35 (fun s wx => s = .int .u32 (c2 : Int) ∧ wx = w2)
  case first => as_aux_lemma =>
    cases sg
    · go_wp2_with fail
      go_meet
      case rel => exact ⟨by rw [HC2.out]; rfl, rfl⟩
    · go_wp2_with fail
      go_meet
      case rel => exact ⟨by rw [HC2.out]; rfl, rfl⟩
  as_aux_lemma =>
    obtain ⟨rfl, rfl⟩ := hcut
    obtain ⟨w2, rfl⟩ : ∃ x : World, x = wc := ⟨_, rfl⟩
    clear o2 o128
    have own := O2.out.alloc (.cells #[.int .u32 (c2 : Int)] 48)
    go_wp2_with (at_builtin; refine wpList_append_own_at _ rfl _ _ 22 rfl B 48 i0 (.int .u32 0) 1 4 Try.underlying22 hi0 hz0 hz1 hz2 rfl (by decide) _ _ _ rfl own ⟨w2.heap.size, 0, none⟩ 1 1 [.int .u32 (c2 : Int)] rfl rfl ?c1 ?c2 ?c3 ?c4 ?c5 ?_)
    case c1 => intro j u hj; cases j with | zero => (simp at hj; subst hj; simp [Addr.add]) | succ j => simp at hj
    case c2 => intro u hu; simp at hu; subst hu; rfl
    case c3 => unfold maxLen; omega
    case c4 => omega
    case c5 => simp; omega
    intro v3 w3 hown3 hgrow3 _ _
    have bl3 : Below B w1 w3 := (L2.out.alloc b2 _).grown hgrow3 (by simp; omega) (fun k hk => (own.lt k hk).1)
    obtain ⟨g3, k3, rfl⟩ := own_form hown3 (by omega)
    have OW3 := Lib.hid hown3
    have BL3 := Lib.hid bl3
    clear hown3 hgrow3 bl3 own q0
    go_wp2_with fail
    go_loopw [1, 25] (fun o v wr => ∃ (k : Nat) (a : Option Addr) (kc : Nat) (ys : List Nat), k ≤ n0 ∧ v = .int .i64 k ∧ o = .slice a ys.length kc ∧ Hid (ys = xs ++ c2 :: wsO (its.take k) ∧ wr.ownsRow B 48 1 (.slice a ys.length kc) ys.length (words ys) ∧ Below B w1 wr)) (fun _ v _ => n0 - (intOf v).toNat)
    case atStart => as_aux_lemma =>
      exact ⟨0, some ⟨g3, 0, none⟩, k3, xs ++ [c2], by omega, rfl, by rw [List.length_append]; rfl, by simp [wsO], by rw [words_app, List.length_append]; exact OW3.out, BL3.out⟩
    case round =>
      obtain ⟨k, a, kc, ys, hk, rfl, rfl, H⟩ := hrel
      have szr := H.out.2.2.size
      have bR : B ≤ wr.heap.size := by omega
      have bq := HQ.out.below H.out.2.2 (by omega)
      have q0 : wr.cell? ⟨q, 0, none⟩ = some (.slice (some ⟨K, 0, none⟩) n0 n0) := bq.cell 0
      have zqr := bq.lt
      by_cases hlt : k < n0
      · obtain ⟨it, hit⟩ : ∃ it, its[k]? = some it := ⟨_, List.getElem?_eq_getElem (by have := HLEN.out; omega)⟩
        obtain ⟨f, hrw, hf⟩ := HROW.out.move fun cs hb => hb.below H.out.2.2 (by omega)
        obtain ⟨a0, a1, a2, a3, a4, a5, a6, a7, a8, a9, a10, a11⟩ := hf k it hit
        have v0 := hrw.cell (i := k) (j := 0) hlt (by omega)
        rw [a0] at v0
        have v1 := hrw.cell (i := k) (j := 1) hlt (by omega)
        rw [a1] at v1
        have v2 := hrw.cell (i := k) (j := 2) hlt (by omega)
        rw [a2] at v2
        have v3 := hrw.cell (i := k) (j := 3) hlt (by omega)
        rw [a3] at v3
        have v4 := hrw.cell (i := k) (j := 4) hlt (by omega)
        rw [a4] at v4
        have v5 := hrw.cell (i := k) (j := 5) hlt (by omega)
        rw [a5] at v5
        have v6 := hrw.cell (i := k) (j := 6) hlt (by omega)
        rw [a6] at v6
        have v7 := hrw.cell (i := k) (j := 7) hlt (by omega)
        rw [a7] at v7
        have v8 := hrw.cell (i := k) (j := 8) hlt (by omega)
        rw [a8] at v8
        have v9 := hrw.cell (i := k) (j := 9) hlt (by omega)
        rw [a9] at v9
        have v10 := hrw.cell (i := k) (j := 10) hlt (by omega)
        rw [a10] at v10
        have v11 := hrw.cell (i := k) (j := 11) hlt (by omega)
        rw [a11] at v11
        rw [Nat.add_zero] at v0
        have zKr := hrw.lt
        have IT := Lib.hid (HIT.out _ it hit)
        have HX := Lib.hid hit
        have hwl : (xs ++ c2 :: wsO (its.take k)).length = xs.length + 1 + (wsO (its.take k)).length := by simp; omega
        have hle := wsO_le its k it hit
        have hyl : ys.length = xs.length + 1 + (wsO (its.take k)).length := by rw [H.out.1]; exact hwl
        have YL := Lib.hid hyl
        have LE := Lib.hid hle
        have yb : ys.length ≤ 1000000 := by have := HBO.out; omega
        obtain ⟨T, g, li, loi, hii, wsi, pti, kli, kgi, dgi⟩ := it
        have hkl : kli = ys.length := by have h1 : kli = xs.length + 1 + (wsO (its.take k)).length := IT.out.1.1; omega
        have hpt : pti < 4294967296 := IT.out.1.2.2.1
        have bk0 := (HB0.out.2.bk IT.out.1.2.2.2.1.2.2 IT.out.1.2.2.2.1.1 IT.out.1.2.2.2.1.2.1 (by decide)).below H.out.2.2 (by have h1 := IT.out.1.2.2.2.1.2.1; have h2 := HB0.out.1; omega)
        have BK := Lib.hid bk0
        simp only [Ko.d] at v3
        subst hkl
        clear hrw hf hit hwl bq hyl hle a0 a1 a2 a3 a4 a5 a6 a7 a8 a9 a10 a11 bk0
        obtain ⟨b1, hb1⟩ : ∃ b1, b1 = decide (pti % 2 = 1) := ⟨_, rfl⟩
        obtain ⟨b2', hb2⟩ : ∃ b2, b2 = decide (pti / 2 % 2 = 1) := ⟨_, rfl⟩
        dsimp only at v1 v2 v4 v5 v6 v10 v11
        obtain ⟨kd, hkd⟩ : ∃ kd : Int, kd = (if pti % 2 = 1 then 5 else 0) := ⟨_, rfl⟩
        obtain ⟨fd, hfd⟩ : ∃ fd : Int, fd = (if pti / 2 % 2 = 1 then 1 else 0) := ⟨_, rfl⟩
        obtain ⟨dv, hdv⟩ : ∃ dv : Value, dv = (if dfO pti then Num dgi else .nilIface) := ⟨_, rfl⟩
        obtain ⟨dl, hdl⟩ : ∃ dl : Int, dl = (if dfO pti then (ys.length : Int) else 0) := ⟨_, rfl⟩
        rw [← hkd] at v10
        rw [← hfd] at v11
        rw [← hdv] at v5
        rw [← hdl] at v6
        obtain ⟨m, hm⟩ : ∃ m, m = pti / 8 := ⟨_, rfl⟩
        have hm29 : m < 536870912 := by omega
        obtain ⟨p1, hp1⟩ : ∃ p1 : Nat, p1 = pti % 2 := ⟨_, rfl⟩
        obtain ⟨p2, hp2⟩ : ∃ p2 : Nat, p2 = p1 + 2 * (pti / 2 % 2) := ⟨_, rfl⟩
        obtain ⟨p3, hp3⟩ : ∃ p3 : Nat, p3 = p2 + 8 * m := ⟨_, rfl⟩
        have hA : (kd = 5 ∧ p1 = 1) ∨ (kd = 0 ∧ p1 = 0) := by
          rcases Nat.mod_two_eq_zero_or_one pti with h | h
          · right; exact ⟨by rw [hkd, if_neg (by omega)], by omega⟩
          · left; exact ⟨by rw [hkd, if_pos h], by omega⟩
        have hC : (fd = 1 ∧ p2 = p1 + 2) ∨ (fd = 0 ∧ p2 = p1) := by
          rcases Nat.mod_two_eq_zero_or_one (pti / 2) with h | h
          · right; exact ⟨by rw [hfd, if_neg (by omega)], by omega⟩
          · left; exact ⟨by rw [hfd, if_pos h], by omega⟩
        have hD : (dfO pti = false ∧ dv = .nilIface ∧ pti = p3) ∨ (dfO pti = true ∧ dv = Num dgi ∧ dl = (ys.length : Int) ∧ pti = p3 + 4) := by
          unfold dfO at hdv hdl ⊢
          rcases Nat.mod_two_eq_zero_or_one (pti / 4) with h | h
          · left; refine ⟨by simp; omega, by rw [hdv]; simp [h], by omega⟩
          · right; refine ⟨by simp [h], by rw [hdv]; simp [h], by rw [hdl]; simp [h], by omega⟩
        have p1b : p1 < 2 := by omega
        have p2b : p2 < 4 := by omega
        have ob1 : bits .or .u32 0 1 = 1 := by decide
        have ob2 : bits .or .u32 (p1 : Int) 2 = ((p1 + 2 : Nat) : Int) := by
          have h := or_low p1 1 1 (by omega) (by omega) (by omega)
          rw [show (2 : Int) = ((2 ^ 1 * 1 : Nat) : Int) from rfl, h]
        have ob3 : bits .or .u32 (p2 : Int) ((m : Int) * 8 % 4294967296) = (p3 : Int) := by
          have h := or_low p2 m 3 (by omega) (by omega) (by omega)
          rw [show (m : Int) * 8 % 4294967296 = ((2 ^ 3 * m : Nat) : Int) by omega, h, hp3]
        have ob5 : bits .or .u32 (p2 : Int) ((m : Int) * 8) = (p3 : Int) := by
          have h := or_low p2 m 3 (by omega) (by omega) (by omega)
          rw [show (m : Int) * 8 = ((2 ^ 3 * m : Nat) : Int) by omega, h, hp3]
        have HM := Lib.hid hm
        have HP3 := Lib.hid hp3
        have HA0 := HA
        have HA := Lib.hid hA
        have HC := Lib.hid hC
        have NK : Hid (Bk wr kgi 68 #[.float .f64 (fb m)]) := by rw [hm]; exact BK.out
        clear hkd hfd hdv hdl hm hp1 hp2 hp3 hA hC BK
        rcases hD with ⟨d1, rfl, d3⟩ | ⟨d1, rfl, rfl, d3⟩
        · as_aux_lemma =>
          go_upto_region 51 with fail
          obtain ⟨w5, hw5⟩ : ∃ x : World, x = wr.alloc (.cells #[.pointer none, Num kgi, .int .i32 (ys.length : Int), .iface T (ptr g), .int .i32 (li : Int), .nilIface, .int .i32 dl, .slice none 0 0, .int .i32 0, .int .i32 0, .int .u8 kd, .int .u8 fd] 102) := ⟨_, rfl⟩
          rw [← hw5]
          have bx : Bk w5 wr.heap.size 102 #[.pointer none, Num kgi, .int .i32 (ys.length : Int), .iface T (ptr g), .int .i32 (li : Int), .nilIface, .int .i32 dl, .slice none 0 0, .int .i32 0, .int .i32 0, .int .u8 kd, .int .u8 fd] := by rw [hw5]; exact Bk.new _ _ _
          have HBX := Lib.hid bx
          have x1 : w5.cell? ⟨wr.heap.size, 1, none⟩ = some (Num kgi) := bx.cell 1
          have x2 : w5.cell? ⟨wr.heap.size, 2, none⟩ = some (.int .i32 (ys.length : Int)) := bx.cell 2
          have x3 : w5.cell? ⟨wr.heap.size, 3, none⟩ = some (.iface T (ptr g)) := bx.cell 3
          have x4 : w5.cell? ⟨wr.heap.size, 4, none⟩ = some (.int .i32 (li : Int)) := bx.cell 4
          have x5 : w5.cell? ⟨wr.heap.size, 5, none⟩ = some .nilIface := bx.cell 5
          have x6 : w5.cell? ⟨wr.heap.size, 6, none⟩ = some (.int .i32 dl) := bx.cell 6
          have x10 : w5.cell? ⟨wr.heap.size, 10, none⟩ = some (.int .u8 kd) := bx.cell 10
          have x11 : w5.cell? ⟨wr.heap.size, 11, none⟩ = some (.int .u8 fd) := bx.cell 11
          have NK5 : Hid (Bk w5 kgi 68 #[.float .f64 (fb m)]) := by rw [hw5]; exact NK.out.alloc _
          have nk0 : w5.cell? ⟨kgi, 0, none⟩ = some (.float .f64 (fb m)) := NK5.out.cell 0
          have OW5 : Hid (w5.ownsRow B 48 1 (.slice a ys.length kc) ys.length (words ys)) := by rw [hw5]; exact Lib.hid (H.out.2.1.alloc _)
          have BL5 : Hid (Below B w1 w5) := by rw [hw5]; exact Lib.hid (H.out.2.2.alloc bR _)
          have z5 : w5.heap.size = wr.heap.size + 1 := by rw [hw5]; simp
          have zx5 : wr.heap.size < w5.heap.size := by omega
          have zk5 := NK5.out.lt
          have b5 : B ≤ w5.heap.size := by omega
          clear hw5 bx z5 v0 v1 v2 v3 v4 v5 v6 v7 v8 v9 v10 v11
          go_upto_if 241 with fail
          go_cut [27] from 232 to 346 (fun s wx => s = .int .u32 (p1 : Int) ∧ wx = w5)
          case first => as_aux_lemma =>
            rcases HA.out with ⟨rfl, rfl⟩ | ⟨rfl, rfl⟩
            all_goals
              go_wp2_with fail
              go_meet
              case rel => exact ⟨rfl, rfl⟩
          as_aux_lemma =>
            obtain ⟨rfl, rfl⟩ := hcut
            obtain ⟨w5, rfl⟩ : ∃ x : World, x = wc := ⟨_, rfl⟩
            go_upto_if 250 with fail
            go_cut [27] from 232 to 346 (fun s wx => s = .int .u32 (p2 : Int) ∧ wx = w5)
            case first => as_aux_lemma =>
              rcases HC.out with ⟨rfl, rfl⟩ | ⟨rfl, rfl⟩
              all_goals
                go_wp2_with fail
                go_meet
                case rel => exact ⟨rfl, rfl⟩
            as_aux_lemma =>
              obtain ⟨rfl, rfl⟩ := hcut
              obtain ⟨w5, rfl⟩ : ∃ x : World, x = wc := ⟨_, rfl⟩
              have g1 := fb_lt m hm29
              have g2 := fb_refl m hm29
              have g3 := fb_int m hm29
              have g4 : floatOfInt .f64 (m : Int) = fb m := rfl
              have cv := fun w => run_convert_float_int (P := Try.prog) w 66 48 .f64 .u32 (fb m) (m : Int) (by kernel_rfl) Try.underlying48 g3
              go_upto_region 70 with fail
              all_goals try (exfalso; rename_i hbad; (first | (rcases fb_ge m hm29 with g | g <;> simp [g] at hbad; done) | (simp [g1] at hbad; done)))
              clear g1 g3 cv ob1 ob2 ob3 ob5
              go_upto_region 75 with fail
              obtain ⟨zs, hzs⟩ : ∃ zs, zs = ys ++ [p3] := ⟨_, rfl⟩
              have zl : ys.length + 1 = zs.length := by rw [hzs]; simp
              have zw : words ys ++ [.int .u32 (p3 : Int)] = words zs := by rw [hzs, words_app]; rfl
              have HZ := Lib.hid hzs
              have own := OW5.out.alloc (.cells #[.int .u32 (p3 : Int)] 48)
              have ZL := Lib.hid zl
              have ZW := Lib.hid zw
              clear hzs zl zw
              go_wp2_with (at_builtin; refine hold_at_u ?_)
              refine ⟨?_⟩
              refine wpList_append_own_at _ rfl _ _ 22 rfl B 48 i0 (.int .u32 0) 1 4 Try.underlying22 hi0 hz0 hz1 hz2 rfl (by decide) _ _ _ rfl own ⟨w5.heap.size, 0, none⟩ 1 1 [.int .u32 (p3 : Int)] rfl rfl ?sc1 ?sc2 ?sc3 ?sc4 ?sc5 ?_
              case sc1 => intro j u hj; cases j with | zero => (simp at hj; subst hj; simp [Addr.add]) | succ j => simp at hj
              case sc2 => intro u hu; simp at hu; subst hu; rfl
              case sc3 => unfold maxLen; omega
              case sc4 => omega
              case sc5 => simp; omega
              intro v6 w6 hown6 hgrow6 _ _
              have bl6 : Below B w1 w6 := (BL5.out.alloc b5 _).grown hgrow6 (by simp; omega) (fun k hk => (own.lt k hk).1)
              have bx6 := Bk.grown (HBX.out.alloc _) hgrow6 (own_ne own (HBX.out.alloc _) (by decide))
              have x3 : w6.cell? ⟨wr.heap.size, 3, none⟩ = some (.iface T (ptr g)) := bx6.cell 3
              have x4 : w6.cell? ⟨wr.heap.size, 4, none⟩ = some (.int .i32 (li : Int)) := bx6.cell 4
              have zx6 := bx6.lt
              have hown6' : w6.ownsRow B 48 1 v6 zs.length (words zs) := by rw [← ZL.out, ← ZW.out]; exact hown6
              obtain ⟨g6, k6, rfl⟩ := own_form hown6' (by have := ZL.out; omega)
              have OW6 := Lib.hid hown6'
              have BL6 := Lib.hid bl6
              clear hown6 hown6' hgrow6 bl6 own bx6
              go_wp2_with fail
              refine (IT.out.2.1 B (some ⟨g6, 0, none⟩) k6 zs w6 ⟨HB0.out.1, HB0.out.2.trans (agreeT_below BL6.out HB0.out.1)⟩ ?_ ?_ ?_ ?_ ?_ ?_).mono ?_
              · have h9 : hii ≤ hi := IT.out.1.2.2.2.2.2.2
                show hii ≤ B; omega
              · have := BL6.out.size; omega
              · exact (HA0.out.sub IT.out.1.2.2.2.2.2.1 IT.out.1.2.2.2.2.2.2).trans (agreeT_below BL6.out (by have h9 : hii ≤ hi := IT.out.1.2.2.2.2.2.2; show hii ≤ B; omega))
              · exact OW6.out
              · have h1 : li = ys.length + 1 := IT.out.1.2.1
                show zs.length = li
                rw [h1, ZL.out]
              · have h1 : (wsO (its.take k)).length + 1 + wsi.length ≤ (wsO its).length := LE.out
                have h2 := YL.out
                have h3 := HBO.out
                have h4 := ZL.out
                show zs.length + wsi.length ≤ 1000000
                omega
              rintro e w7 ⟨a7, k7, rfl, ho7, hb7⟩
              obtain ⟨us, hus⟩ : ∃ us, us = zs ++ wsi := ⟨_, rfl⟩
              have ho7' : w7.ownsRow B 48 1 (.slice a7 us.length k7) us.length (words us) := by rw [hus]; exact ho7
              have O7 := Lib.hid ho7'
              have B7 := Lib.hid (BL6.out.trans hb7)
              rw [show (Value.slice a7 (zs ++ wsi).length k7) = .slice a7 us.length k7 by rw [hus]]
              have HUS := Lib.hid hus
              clear ho7 ho7' hb7 hus
              go_wp2_with fail
              go_roundw
              case rel => exact ⟨k + 1, a7, k7, us, by omega, by go_num, rfl, by rw [HUS.out, HZ.out, wsO_take its k _ HX.out, H.out.1]; simp [d3], O7.out, B7.out⟩
              case measure => simp [intOf]; omega
        · as_aux_lemma =>
          go_upto_region 51 with fail
          obtain ⟨w5, hw5⟩ : ∃ x : World, x = wr.alloc (.cells #[.pointer none, Num kgi, .int .i32 (ys.length : Int), .iface T (ptr g), .int .i32 (li : Int), (Num dgi), .int .i32 (ys.length : Int), .slice none 0 0, .int .i32 0, .int .i32 0, .int .u8 kd, .int .u8 fd] 102) := ⟨_, rfl⟩
          rw [← hw5]
          have bx : Bk w5 wr.heap.size 102 #[.pointer none, Num kgi, .int .i32 (ys.length : Int), .iface T (ptr g), .int .i32 (li : Int), (Num dgi), .int .i32 (ys.length : Int), .slice none 0 0, .int .i32 0, .int .i32 0, .int .u8 kd, .int .u8 fd] := by rw [hw5]; exact Bk.new _ _ _
          have HBX := Lib.hid bx
          have x1 : w5.cell? ⟨wr.heap.size, 1, none⟩ = some (Num kgi) := bx.cell 1
          have x2 : w5.cell? ⟨wr.heap.size, 2, none⟩ = some (.int .i32 (ys.length : Int)) := bx.cell 2
          have x3 : w5.cell? ⟨wr.heap.size, 3, none⟩ = some (.iface T (ptr g)) := bx.cell 3
          have x4 : w5.cell? ⟨wr.heap.size, 4, none⟩ = some (.int .i32 (li : Int)) := bx.cell 4
          have x5 : w5.cell? ⟨wr.heap.size, 5, none⟩ = some (Num dgi) := bx.cell 5
          have x6 : w5.cell? ⟨wr.heap.size, 6, none⟩ = some (.int .i32 (ys.length : Int)) := bx.cell 6
          have x10 : w5.cell? ⟨wr.heap.size, 10, none⟩ = some (.int .u8 kd) := bx.cell 10
          have x11 : w5.cell? ⟨wr.heap.size, 11, none⟩ = some (.int .u8 fd) := bx.cell 11
          have NK5 : Hid (Bk w5 kgi 68 #[.float .f64 (fb m)]) := by rw [hw5]; exact NK.out.alloc _
          have nk0 : w5.cell? ⟨kgi, 0, none⟩ = some (.float .f64 (fb m)) := NK5.out.cell 0
          have OW5 : Hid (w5.ownsRow B 48 1 (.slice a ys.length kc) ys.length (words ys)) := by rw [hw5]; exact Lib.hid (H.out.2.1.alloc _)
          have BL5 : Hid (Below B w1 w5) := by rw [hw5]; exact Lib.hid (H.out.2.2.alloc bR _)
          have z5 : w5.heap.size = wr.heap.size + 1 := by rw [hw5]; simp
          have zx5 : wr.heap.size < w5.heap.size := by omega
          have zk5 := NK5.out.lt
          have b5 : B ≤ w5.heap.size := by omega
          have ND5 : Hid (Bk w5 dgi 68 #[.float .f64 (fb m)]) := by
            obtain ⟨c1, c2, c3⟩ := IT.out.1.2.2.2.2.1 d1
            have h := (HB0.out.2.bk c3 c1 c2 (by decide)).below H.out.2.2 (by have h2 := HB0.out.1; have h3 : dgi < _ := c2; omega)
            rw [hw5, HM.out]; exact h.alloc _
          clear hw5 bx z5 v0 v1 v2 v3 v4 v5 v6 v7 v8 v9 v10 v11
          go_upto_if 241 with fail
          go_cut [27] from 232 to 346 (fun s wx => s = .int .u32 (p1 : Int) ∧ wx = w5)
          case first => as_aux_lemma =>
            rcases HA.out with ⟨rfl, rfl⟩ | ⟨rfl, rfl⟩
            all_goals
              go_wp2_with fail
              go_meet
              case rel => exact ⟨rfl, rfl⟩
          as_aux_lemma =>
            obtain ⟨rfl, rfl⟩ := hcut
            obtain ⟨w5, rfl⟩ : ∃ x : World, x = wc := ⟨_, rfl⟩
            go_upto_if 250 with fail
            go_cut [27] from 232 to 346 (fun s wx => s = .int .u32 (p2 : Int) ∧ wx = w5)
            case first => as_aux_lemma =>
              rcases HC.out with ⟨rfl, rfl⟩ | ⟨rfl, rfl⟩
              all_goals
                go_wp2_with fail
                go_meet
                case rel => exact ⟨rfl, rfl⟩
            as_aux_lemma =>
              obtain ⟨rfl, rfl⟩ := hcut
              obtain ⟨w5, rfl⟩ : ∃ x : World, x = wc := ⟨_, rfl⟩
              have g1 := fb_lt m hm29
              have g2 := fb_refl m hm29
              have g3 := fb_int m hm29
              have g4 : floatOfInt .f64 (m : Int) = fb m := rfl
              have cv := fun w => run_convert_float_int (P := Try.prog) w 66 48 .f64 .u32 (fb m) (m : Int) (by kernel_rfl) Try.underlying48 g3
              go_upto_region 70 with fail
              all_goals try (exfalso; rename_i hbad; (first | (rcases fb_ge m hm29 with g | g <;> simp [g] at hbad; done) | (simp [g1] at hbad; done)))
              clear g1 g3 cv ob1 ob2 ob3 ob5
              have nd : Bk w5 dgi 68 #[.float .f64 (fb m)] := ND5.out
              have nd0 : w5.cell? ⟨dgi, 0, none⟩ = some (.float .f64 (fb m)) := nd.cell 0
              have zd := nd.lt
              have eg := fun (x y : Operand) (w : World) => run_eqGuard_agg (P := Try.prog) w .neq 30 x y #[.int .i32 (ys.length : Int)] #[.int .i32 (ys.length : Int)] guardL1
              obtain ⟨p4, hp4⟩ : ∃ p4, p4 = p3 + 4 := ⟨_, rfl⟩
              have ob4 : bits .or .u32 (p3 : Int) 4 = (p4 : Int) := by
                have h := or_four_u p2 m p2b hm29
                rw [← HP3.out, ← hp4] at h
                exact h
              rw [← hp4] at d3
              clear nd hp4
              go_upto_region 75 with fail
              clear eg ob4 nd0
              obtain ⟨zs, hzs⟩ : ∃ zs, zs = ys ++ [p4] := ⟨_, rfl⟩
              have zl : ys.length + 1 = zs.length := by rw [hzs]; simp
              have zw : words ys ++ [.int .u32 (p4 : Int)] = words zs := by rw [hzs, words_app]; rfl
              have HZ := Lib.hid hzs
              have own := OW5.out.alloc (.cells #[.int .u32 (p4 : Int)] 48)
              have ZL := Lib.hid zl
              have ZW := Lib.hid zw
              clear hzs zl zw
              go_wp2_with (at_builtin; refine hold_at_u ?_)
              refine ⟨?_⟩
              refine wpList_append_own_at _ rfl _ _ 22 rfl B 48 i0 (.int .u32 0) 1 4 Try.underlying22 hi0 hz0 hz1 hz2 rfl (by decide) _ _ _ rfl own ⟨w5.heap.size, 0, none⟩ 1 1 [.int .u32 (p4 : Int)] rfl rfl ?sc1 ?sc2 ?sc3 ?sc4 ?sc5 ?_
              case sc1 => intro j u hj; cases j with | zero => (simp at hj; subst hj; simp [Addr.add]) | succ j => simp at hj
              case sc2 => intro u hu; simp at hu; subst hu; rfl
              case sc3 => unfold maxLen; omega
              case sc4 => omega
              case sc5 => simp; omega
              intro v6 w6 hown6 hgrow6 _ _
              have bl6 : Below B w1 w6 := (BL5.out.alloc b5 _).grown hgrow6 (by simp; omega) (fun k hk => (own.lt k hk).1)
              have bx6 := Bk.grown (HBX.out.alloc _) hgrow6 (own_ne own (HBX.out.alloc _) (by decide))
              have x3 : w6.cell? ⟨wr.heap.size, 3, none⟩ = some (.iface T (ptr g)) := bx6.cell 3
              have x4 : w6.cell? ⟨wr.heap.size, 4, none⟩ = some (.int .i32 (li : Int)) := bx6.cell 4
              have zx6 := bx6.lt
              have hown6' : w6.ownsRow B 48 1 v6 zs.length (words zs) := by rw [← ZL.out, ← ZW.out]; exact hown6
              obtain ⟨g6, k6, rfl⟩ := own_form hown6' (by have := ZL.out; omega)
              have OW6 := Lib.hid hown6'
              have BL6 := Lib.hid bl6
              clear hown6 hown6' hgrow6 bl6 own bx6
              go_wp2_with fail
              refine (IT.out.2.1 B (some ⟨g6, 0, none⟩) k6 zs w6 ⟨HB0.out.1, HB0.out.2.trans (agreeT_below BL6.out HB0.out.1)⟩ ?_ ?_ ?_ ?_ ?_ ?_).mono ?_
              · have h9 : hii ≤ hi := IT.out.1.2.2.2.2.2.2
                show hii ≤ B; omega
              · have := BL6.out.size; omega
              · exact (HA0.out.sub IT.out.1.2.2.2.2.2.1 IT.out.1.2.2.2.2.2.2).trans (agreeT_below BL6.out (by have h9 : hii ≤ hi := IT.out.1.2.2.2.2.2.2; show hii ≤ B; omega))
              · exact OW6.out
              · have h1 : li = ys.length + 1 := IT.out.1.2.1
                show zs.length = li
                rw [h1, ZL.out]
              · have h1 : (wsO (its.take k)).length + 1 + wsi.length ≤ (wsO its).length := LE.out
                have h2 := YL.out
                have h3 := HBO.out
                have h4 := ZL.out
                show zs.length + wsi.length ≤ 1000000
                omega
              rintro e w7 ⟨a7, k7, rfl, ho7, hb7⟩
              obtain ⟨us, hus⟩ : ∃ us, us = zs ++ wsi := ⟨_, rfl⟩
              have ho7' : w7.ownsRow B 48 1 (.slice a7 us.length k7) us.length (words us) := by rw [hus]; exact ho7
              have O7 := Lib.hid ho7'
              have B7 := Lib.hid (BL6.out.trans hb7)
              rw [show (Value.slice a7 (zs ++ wsi).length k7) = .slice a7 us.length k7 by rw [hus]]
              have HUS := Lib.hid hus
              clear ho7 ho7' hb7 hus
              go_wp2_with fail
              go_roundw
              case rel => exact ⟨k + 1, a7, k7, us, by omega, by go_num, rfl, by rw [HUS.out, HZ.out, wsO_take its k _ HX.out, H.out.1]; simp [d3], O7.out, B7.out⟩
              case measure => simp [intOf]; omega
      · as_aux_lemma =>
        have kn : k = n0 := by omega
        have e1 : xs ++ (hdrO n0 sg :: wsO its) = ys := by rw [H.out.1, ← EH.out, kn, ← HLEN.out, List.take_length]
        have E1 := Lib.hid e1
        clear e1 kn
        go_wp2_with fail
        go_ret2
        rw [E1.out]
        exact ⟨a, kc, rfl, H.out.2.1, H.out.2.2⟩
theorem ser_obj_ok : SerObjOk := fun lo0 hi0 lo hi w q l n0 K sg its a1 a2 a3 a4 a5 a6 a7 a8 a9 a10 => ⟨ser_obj_ok0 lo0 hi0 lo hi w q l n0 K sg its a1 a2 a3 a4 a5 a6 a7 a8 a9 a10,
  .obj a1 a2 a3 a4 a5 a6 a7 a8 (fun i x hx => ⟨(a9 i x hx).1.2.2.2.2.2.1, (a9 i x hx).1.2.2.2.2.2.2⟩) (fun i x hx => (a9 i x hx).2.2)⟩

end Go.Proofs.Ytokkndnicpgdkaa
