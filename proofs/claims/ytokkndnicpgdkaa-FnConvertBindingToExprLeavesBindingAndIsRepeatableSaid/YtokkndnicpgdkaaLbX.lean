/-
  The two serialisers of bindings on an array pattern: the second; no statement of its own.
-/
import Derived.Test.YtokkndnicpgdkaaRows
import Derived.WalkKit
import Derived.ProofKit
import Derived.OpenShut
import Derived.Test.YtokkndnicpgdkaaSlW
import Derived.Test.YtokkndnicpgdkaaCbW
import Derived.Test.YtokkndnicpgdkaaLbA
import Derived.Test.YtokkndnicpgdkaaLbR
import Derived.Test.YtokkndnicpgdkaaLbE
import Derived.Test.YtokkndnicpgdkaaLbB
import Derived.Test.YtokkndnicpgdkaaLbK
import Derived.Test.YtokkndnicpgdkaaLbJ
import Derived.WalkLawsBesides
import Derived.WalkSpells
import Derived.Below
import Derived.Lib.Hide
import Derived.Outline
import Derived.OwnWalk
import Derived.Laws.OwnMore
import Derived.Maps.AppendAt
import Derived.RegionTactic
import Derived.Deep.QuietTactic
import Derived.BigQuiet
import Derived.Deep.Cut
import Derived.Deep.AppendLies
import Derived.Deep.RegionLaw
import Derived.LoopTactic
import Derived.Deep.RegionHeld3
namespace Go.Proofs.Ytokkndnicpgdkaa
open Go.ChangeShapes Go.WideShapes Go.ChangeAt Go.RowKit

set_option linter.unusedVariables false

structure StopX (p : Prop) : Prop where
  out : p
theorem hold_at {P : Program} {ops : Array Oper} {Q : Exit → Act → World → Prop} {l : List Oper} {a : Act} {w : World} (h : StopX (wpList P ops Q l a w)) : wpList P ops Q l a w := h.out
def b01 (b : Bool) : Nat := if b then 1 else 0
theorem b2i (b : Bool) (w : World) : Calls Try.prog 13 #[.bool b] w fun e w' => e = .returned (.int .i64 (b01 b : Int)) ∧ w' = w := by
  go_enter Try.func13, Try.ntmps13
  cases b
  · go_wp2_with fail
    go_ret
    exact ⟨rfl, rfl⟩
  · go_wp2_with fail
    go_ret
    exact ⟨rfl, rfl⟩
/-- What is written on the first k children. -/
def flA (F : Nat → List Nat) (k : Nat) : List Nat := (List.range k).flatMap fun i => 0 :: 0 :: F i
theorem flA_up (F : Nat → List Nat) (k : Nat) : flA F (k + 1) = flA F k ++ (0 :: 0 :: F k) := by unfold flA; rw [List.range_succ, List.flatMap_append, List.flatMap_singleton]
theorem flA_len (F : Nat → List Nat) (its : List Kd) (hF : ∀ i x, its[i]? = some x → (F i).length + 2 ≤ 16 * x.ws.length) : ∀ k, k ≤ its.length → (flA F k).length ≤ 16 * (wsOf (its.take k)).length := by
  intro k
  induction k with
  | zero => intro _; simp [flA]
  | succ k ih =>
    intro hk
    have hx : its[k]? = some its[k] := List.getElem?_eq_getElem (by omega)
    have h1 := ih (by omega)
    have h2 := hF k _ hx
    rw [flA_up, ws_take its k _ hx, List.length_append, List.length_append]
    simp only [List.length_cons]
    omega
set_option maxRecDepth 100000 in
set_option maxHeartbeats 4000000 in
theorem full_arr (lo hi : Nat) (w : World) (q l n0 K : Nat) (sp sg : Bool) (its : List Kd) (F : Nat → List Nat) (n15 : n0 ≤ 15) (hlen : its.length = n0) (hq : Bk w q 63 #[.slice (some ⟨K, 0, none⟩) n0 n0, .int .i32 0, .bool sp, .bool sg]) (hq1 : lo ≤ q) (hq2 : q < hi) (hK1 : lo ≤ K) (hK2 : K < hi) (hrow : RowA w K n0 its)
    (hkids : ∀ i x, its[i]? = some x → lo ≤ x.lo ∧ x.hi ≤ hi ∧ x.l ≤ 1000000 ∧ Full x.lo x.hi w x.d x.l (F i)) (hmono : ∀ k, k < n0 → (flA F k).length + 2 + (F k).length ≤ (flA F n0).length) :
    Full lo hi w (.iface 61 (ptr q)) l (l :: 2 :: n0 :: b01 sp :: b01 sg :: flA F n0) := by
  intro B va vc xs w1 hB hB1 ha hown hlen2 hl
  have hw64 : wrap64 (l : Int) = (l : Int) := by unfold wrap64; omega
  have hqb := ha.bk hq hq1 hq2 (by decide)
  have HQ := Lib.hid hqb
  have HROW := Lib.hid (hrow.move fun cs hb => ha.bk hb hK1 hK2 (by decide))
  have HA := Lib.hid ha
  have HIT := Lib.hid hkids
  have HMO := Lib.hid hmono
  have HLEN := Lib.hid hlen
  have HL2 := Lib.hid (show xs.length + 5 + (flA F n0).length ≤ 20000000 by simp only [List.length_cons] at hlen2; omega)
  have hxl : xs.length + 5 ≤ 20000000 := by have := HL2.out; omega
  obtain ⟨n0_, hn0, kz0, kz1, kz2⟩ := info_three info_n
  have own := (hown.alloc (.cells #[.iface 61 (ptr q), .int .i32 (l : Int)] 32)).alloc (.cells #[.int .i64 (l : Int)] 2)
  clear ha hq hqb hrow hkids hlen hlen2 hmono
  go_enter Try.func7, Try.ntmps7
  go_wp2_with (at_builtin; refine wpList_append_own_at _ rfl _ _ 36 rfl B 2 n0_ (.int .i64 0) 1 8 Try.underlying36 hn0 kz0 kz1 kz2 rfl (by decide) _ _ _ rfl own ⟨w1.heap.size + 1, 0, none⟩ 1 1 [.int .i64 (l : Int)] rfl rfl ?c1 ?c2 ?c3 ?c4 ?c5 ?_)
  case c1 => intro j u hj; cases j with | zero => (simp at hj; subst hj; simp [Addr.add]) | succ j => simp at hj
  case c2 => intro u hu; simp at hu; subst hu; rfl
  case c3 => unfold maxLen; omega
  case c4 => omega
  case c5 => simp; omega
  intro v' w2 hown' hgrow _ _
  have bl : Below B w1 w2 := (((Below.refl _ _).alloc hB1 _).alloc (by simp; omega) _).grown hgrow (by simp; omega) (fun k hk => (own.lt k hk).1)
  have b1 : Bk w2 w1.heap.size 32 #[.iface 61 (ptr q), .int .i32 (l : Int)] := ((Bk.new _ _ _).alloc _).grown hgrow (own_ne own ((Bk.new _ _ _).alloc _) (by decide))
  have e0 : w2.cell? ⟨w1.heap.size, 0, none⟩ = some (.iface 61 (ptr q)) := b1.cell 0
  have ze := b1.lt
  have bq := HQ.out.below bl (by omega)
  have q0 : w2.cell? ⟨q, 0, none⟩ = some (.slice (some ⟨K, 0, none⟩) n0 n0) := bq.cell 0
  have q2 : w2.cell? ⟨q, 2, none⟩ = some (.bool sp) := bq.cell 2
  have q3 : w2.cell? ⟨q, 3, none⟩ = some (.bool sg) := bq.cell 3
  have zq := bq.lt
  have OW := Lib.hid hown'
  have BL := Lib.hid bl
  obtain ⟨g1, k1, rfl⟩ := own_form hown' (by omega)
  have HQ2 := Lib.hid bq
  clear hown' hgrow bl own b1 bq
  have b2 : B ≤ w2.heap.size := by have := BL.out.size; omega
  go_upto_region 13 with fail
  go_cut [1] from 28 (fun s wx => ∃ (g : Nat) (c : Nat), s = .slice (some ⟨g, 0, none⟩) (xs.length + 1 + 4) c ∧ Hid (wx.ownsRow B 2 1 (.slice (some ⟨g, 0, none⟩) (xs.length + 1 + 4) c) (xs.length + 1 + 4) (nums (xs ++ [l, 2, n0, b01 sp, b01 sg])) ∧ Below B w1 wx))
  case first => as_aux_lemma =>
    have e4 : nums (xs ++ [l, 2, n0, b01 sp, b01 sg]) = (nums xs ++ [.int .i64 (l : Int)]) ++ [.int .i64 2, .int .i64 (n0 : Int), .int .i64 (b01 sp : Int), .int .i64 (b01 sg : Int)] := by rw [nums_app, List.append_assoc]; rfl
    have E4 := Lib.hid e4
    have ODx : Hid ((w2.drew).ownsRow B 2 1 (.slice (some ⟨g1, 0, none⟩) (xs.length + 1) k1) (xs.length + 1) (nums xs ++ [.int .i64 (l : Int)])) := OW.out
    have KRx : ∀ w3, ((w2.alloc (.cells #[.int .i64 2, .int .i64 (n0 : Int), .int .i64 (b01 sp : Int), .int .i64 (b01 sg : Int)] 2)).drew).grownBy w3 (Value.slice (some ⟨g1, 0, none⟩) (xs.length + 1) k1).ownBlock → Hid (Bk w3 q 63 #[.slice (some ⟨K, 0, none⟩) n0 n0, .int .i32 0, .bool sp, .bool sg]) ∧ Hid (Below B w1 w3) := by
      intro w3 hg3
      have own := (OW.out.alloc (.cells #[.int .i64 2, .int .i64 (n0 : Int), .int .i64 (b01 sp : Int), .int .i64 (b01 sg : Int)] 2)).drew
      have hb := (HQ2.out.alloc (.cells #[.int .i64 2, .int .i64 (n0 : Int), .int .i64 (b01 sp : Int), .int .i64 (b01 sg : Int)] 2)).drew
      exact ⟨Lib.hid (hb.grown hg3 (own_ne own hb (by decide))), Lib.hid (((BL.out.alloc b2 _).drew).grown hg3 (by simp; omega) (fun k hk => (own.lt k hk).1))⟩
    clear e4
    go_region_held3 (fun w' => w'.cell? ⟨q, 2, none⟩ = some (.bool sp) ∧ w'.cell? ⟨q, 3, none⟩ = some (.bool sg)) (first | exact ⟨HQ2.out.drew.cell 2, HQ2.out.drew.cell 3⟩ | exact ⟨((HQ2.out.alloc _).drew).cell 2, ((HQ2.out.alloc _).drew).cell 3⟩ | exact ⟨KR.out.cell 2, KR.out.cell 3⟩) (first | (go_at_call 13; refine (b2i _ _).mono ?_; rintro e w' ⟨rfl, rfl⟩) | (refine step_append_lies _ (by rfl) _ _ _ (by rfl) B 2 n0_ _ 1 8 Try.underlying36 hn0 kz0 kz1 kz2 rfl (by omega) (.slice (some ⟨g1, 0, none⟩) (xs.length + 1) k1) _ _ (by rfl) ((OW.out.alloc _).drew) ⟨w2.heap.size, 0, none⟩ 4 4 [.int .i64 2, .int .i64 (n0 : Int), .int .i64 (b01 sp : Int), .int .i64 (b01 sg : Int)] (by rfl) (by rfl) (World.news_of_block (cs := #[.int .i64 2, .int .i64 (n0 : Int), .int .i64 (b01 sp : Int), .int .i64 (b01 sg : Int)]) (t := 2) (fr := (0, 0)) (heap_alloc_new w2 _)) (by simp [Value.oneCell']) (by omega) (by unfold maxLen; omega) (by omega) (by simp; omega) (w2.heap.size + 1) (by simp) ?_; intro gg cap w3 hown3 hgrow3 hat hlt; have KR := (KRx _ hgrow3).1; have bl3 := (KRx _ hgrow3).2; have OW3 := Lib.hid hown3; clear hown3 hgrow3 hat hlt))
    all_goals
      go_wp2_with fail
      go_meet
      case rel => exact ⟨gg, cap, rfl, by rw [E4.out]; exact OW3.out, bl3.out⟩
  as_aux_lemma =>
    obtain ⟨g3, k3, rfl, HC⟩ := hcut
    clear e0 q0 q2 q3 OW BL zq ze HQ2
    have hw0 : wrap64 0 = 0 := by unfold wrap64; omega
    have e5 : (xs ++ [l, 2, n0, b01 sp, b01 sg]).length = xs.length + 1 + 4 := by simp
    have E5 := Lib.hid e5
    clear e5
    go_wp2_with fail
    go_loopw [1, 13] (fun o v wr => ∃ (k : Nat) (a : Option Addr) (kc : Nat) (ys : List Nat), k ≤ n0 ∧ v = .int .i64 k ∧ o = .slice a ys.length kc ∧ Hid (ys = xs ++ (l :: 2 :: n0 :: b01 sp :: b01 sg :: flA F k) ∧ wr.ownsRow B 2 1 (.slice a ys.length kc) ys.length (nums ys) ∧ Below B w1 wr)) (fun _ v _ => n0 - (intOf v).toNat)
    case atStart => as_aux_lemma =>
      exact ⟨0, some ⟨g3, 0, none⟩, k3, xs ++ [l, 2, n0, b01 sp, b01 sg], by omega, rfl, by rw [E5.out], by simp [flA], by rw [E5.out]; exact HC.out.1, HC.out.2⟩
    case round =>
      obtain ⟨k, a, kc, ys, hk, rfl, rfl, H⟩ := hrel
      have szr := H.out.2.2.size
      have bR : B ≤ wr.heap.size := by omega
      by_cases hlt : k < n0
      · obtain ⟨x, hx⟩ : ∃ x, its[k]? = some x := ⟨_, List.getElem?_eq_getElem (by have := HLEN.out; omega)⟩
        have bq := HQ.out.below H.out.2.2 (by omega)
        have q0 : wr.cell? ⟨q, 0, none⟩ = some (.slice (some ⟨K, 0, none⟩) n0 n0) := bq.cell 0
        have zqr := bq.lt
        obtain ⟨f, hrw, hf, hz⟩ := HROW.out.move fun cs hb => hb.below H.out.2.2 (by omega)
        have d0 := hrw.cell (i := k) (j := 0) hlt (by omega)
        have d1 := hrw.cell (i := k) (j := 1) hlt (by omega)
        have d2 := hrw.cell (i := k) (j := 2) hlt (by omega)
        have d3 := hrw.cell (i := k) (j := 3) hlt (by omega)
        have d4 := hrw.cell (i := k) (j := 4) hlt (by omega)
        rw [(hf _ x hx).1, Nat.add_zero] at d0
        rw [(hf _ x hx).2] at d1
        rw [(hz k hlt).1] at d2
        rw [(hz k hlt).2.1] at d3
        rw [(hz k hlt).2.2] at d4
        have zKr := hrw.lt
        have IT := Lib.hid (HIT.out _ x hx)
        have hyl : ys.length = xs.length + 5 + (flA F k).length := by rw [H.out.1]; simp; omega
        have YL := Lib.hid hyl
        have LE := Lib.hid (HMO.out k hlt)
        have yb : ys.length + 2 ≤ 20000000 := by have := HL2.out; have := LE.out; omega
        clear hrw hf hz hx bq hyl
        obtain ⟨T, g, li, loi, hii, wsi⟩ := x
        have h9 : hii ≤ hi := IT.out.2.1
        simp only [Kd.d] at d0
        dsimp only at d1
        go_upto_region 18 with fail
        obtain ⟨w4, hw4⟩ : ∃ w4, w4 = wr.alloc (.cells #[.iface T (ptr g), .int .i32 (li : Int), .nilIface, .int .i32 0, .int .i32 0] 60) := ⟨_, rfl⟩
        rw [← hw4]
        have bx : Bk w4 wr.heap.size 60 #[.iface T (ptr g), .int .i32 (li : Int), .nilIface, .int .i32 0, .int .i32 0] := by rw [hw4]; exact Bk.new _ _ _
        have OW4 : Hid (w4.ownsRow B 2 1 (.slice a ys.length kc) ys.length (nums ys)) := by rw [hw4]; exact Lib.hid (H.out.2.1.alloc _)
        have BL4 : Hid (Below B w1 w4) := by rw [hw4]; exact Lib.hid (H.out.2.2.alloc bR _)
        have x4 : w4.cell? ⟨wr.heap.size, 4, none⟩ = some (.int .i32 0) := bx.cell 4
        have zx4 := bx.lt
        have b4 : B ≤ w4.heap.size := by omega
        have HBX := Lib.hid bx
        have own := OW4.out.alloc (.cells #[.int .i64 0] 2)
        clear hw4 bx d0 d1 d2 d3 d4 q0
        go_wp2_with (at_builtin; refine hold_at ?_)
        refine ⟨?_⟩
        refine wpList_append_own_at _ rfl _ _ 36 rfl B 2 n0_ (.int .i64 0) 1 8 Try.underlying36 hn0 kz0 kz1 kz2 rfl (by decide) _ _ _ rfl own ⟨w4.heap.size, 0, none⟩ 1 1 [.int .i64 0] rfl rfl ?sa1 ?sa2 ?sa3 ?sa4 ?sa5 ?_
        case sa1 => intro j u hj; cases j with | zero => (simp at hj; subst hj; simp [Addr.add]) | succ j => simp at hj
        case sa2 => intro u hu; simp at hu; subst hu; rfl
        case sa3 => unfold maxLen; omega
        case sa4 => omega
        case sa5 => simp; omega
        intro v5 w5 hown5 hgrow5 _ _
        have bl5 : Below B w1 w5 := (BL4.out.alloc b4 _).grown hgrow5 (by simp; omega) (fun k hk => (own.lt k hk).1)
        have bx5 := Bk.grown (HBX.out.alloc _) hgrow5 (own_ne own (HBX.out.alloc _) (by decide))
        have x2 : w5.cell? ⟨wr.heap.size, 2, none⟩ = some .nilIface := bx5.cell 2
        have zx5 := bx5.lt
        obtain ⟨g5, k5, rfl⟩ := own_form hown5 (by omega)
        have OW5 := Lib.hid hown5
        have BL5 := Lib.hid bl5
        have HBX5 := Lib.hid bx5
        clear hown5 hgrow5 bl5 own bx5 x4
        have b5 : B ≤ w5.heap.size := by have := BL5.out.size; omega
        have own := OW5.out.alloc (.cells #[.int .i64 0] 2)
        go_wp2_with (at_builtin; refine hold_at ?_)
        refine ⟨?_⟩
        refine wpList_append_own_at _ rfl _ _ 36 rfl B 2 n0_ (.int .i64 0) 1 8 Try.underlying36 hn0 kz0 kz1 kz2 rfl (by decide) _ _ _ rfl own ⟨w5.heap.size, 0, none⟩ 1 1 [.int .i64 0] rfl rfl ?sb1 ?sb2 ?sb3 ?sb4 ?sb5 ?_
        case sb1 => intro j u hj; cases j with | zero => (simp at hj; subst hj; simp [Addr.add]) | succ j => simp at hj
        case sb2 => intro u hu; simp at hu; subst hu; rfl
        case sb3 => unfold maxLen; omega
        case sb4 => omega
        case sb5 => simp; omega
        intro v6 w6 hown6 hgrow6 _ _
        have bl6 : Below B w1 w6 := (BL5.out.alloc b5 _).grown hgrow6 (by simp; omega) (fun k hk => (own.lt k hk).1)
        have bx6 := Bk.grown (HBX5.out.alloc _) hgrow6 (own_ne own (HBX5.out.alloc _) (by decide))
        have x0 : w6.cell? ⟨wr.heap.size, 0, none⟩ = some (.iface T (ptr g)) := bx6.cell 0
        have x1 : w6.cell? ⟨wr.heap.size, 1, none⟩ = some (.int .i32 (li : Int)) := bx6.cell 1
        have zx6 := bx6.lt
        obtain ⟨zs, hzs⟩ : ∃ zs, zs = ys ++ [0, 0] := ⟨_, rfl⟩
        have zl : ys.length + 1 + 1 = zs.length := by rw [hzs]; simp
        have hown6' : w6.ownsRow B 2 1 v6 zs.length (nums zs) := by
          rw [← zl, hzs, show nums (ys ++ [0, 0]) = (nums ys ++ [.int .i64 0]) ++ [.int .i64 0] by rw [nums_app, List.append_assoc]; rfl]
          exact hown6
        obtain ⟨g6, k6, rfl⟩ := own_form hown6' (by omega)
        have OW6 := Lib.hid hown6'
        have BL6 := Lib.hid bl6
        have HZ := Lib.hid hzs
        have ZL := Lib.hid zl
        clear hown6 hown6' hgrow6 bl6 own bx6 x2 hzs zl
        go_wp2_with fail
        refine (IT.out.2.2.2 B (some ⟨g6, 0, none⟩) k6 zs w6 (by show hii ≤ B; omega) (by have := BL6.out.size; omega) ((HA.out.sub IT.out.1 IT.out.2.1).trans (agreeT_below BL6.out (by show hii ≤ B; omega))) OW6.out (by have h1 := LE.out; have h2 := YL.out; have h3 := HL2.out; have h4 := ZL.out; omega) IT.out.2.2.1).mono ?_
        rintro e w7 ⟨a7, k7, rfl, ho7, hb7⟩
        obtain ⟨us, hus⟩ : ∃ us, us = zs ++ F k := ⟨_, rfl⟩
        have ho7' : w7.ownsRow B 2 1 (.slice a7 us.length k7) us.length (nums us) := by rw [hus]; exact ho7
        have O7 := Lib.hid ho7'
        have B7 := Lib.hid (BL6.out.trans hb7)
        show _
        rw [show (Value.slice a7 (zs ++ F k).length k7) = .slice a7 us.length k7 by rw [hus]]
        have HUS := Lib.hid hus
        clear ho7 ho7' hb7 hus
        go_wp2_with fail
        go_roundw
        case rel => exact ⟨k + 1, a7, k7, us, by omega, by go_num, rfl, by rw [HUS.out, HZ.out, flA_up, H.out.1]; simp, O7.out, B7.out⟩
        case measure => simp [intOf]; omega
      · as_aux_lemma =>
        have kn : k = n0 := by omega
        have e1 : xs ++ (l :: 2 :: n0 :: b01 sp :: b01 sg :: flA F n0) = ys := by rw [H.out.1, kn]
        have E1 := Lib.hid e1
        clear e1 kn
        go_wp2_with fail
        go_ret2
        rw [E1.out]
        exact ⟨a, kc, rfl, H.out.2.1, H.out.2.2⟩

end Go.Proofs.Ytokkndnicpgdkaa
