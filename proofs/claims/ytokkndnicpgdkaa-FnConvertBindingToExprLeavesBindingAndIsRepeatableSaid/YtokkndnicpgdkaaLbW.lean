/-
  The two serialisers of bindings on an object pattern: the second; no statement of its own.
-/
import Derived.Test.YtokkndnicpgdkaaRows
import Derived.WalkKit
import Derived.ProofKit
import Derived.OpenShut
import Derived.Test.YtokkndnicpgdkaaSlW
import Derived.Test.YtokkndnicpgdkaaCbW
import Derived.Test.YtokkndnicpgdkaaLbA
import Derived.Test.YtokkndnicpgdkaaLbR
import Derived.Test.YtokkndnicpgdkaaLbE
import Derived.Test.YtokkndnicpgdkaaLbB
import Derived.Test.YtokkndnicpgdkaaLbK
import Derived.Test.YtokkndnicpgdkaaLbO
import Derived.Test.YtokkndnicpgdkaaLbJ
import Derived.Test.YtokkndnicpgdkaaLbX
import Derived.Test.YtokkndnicpgdkaaFltM
import Derived.Test.YtokkndnicpgdkaaLbV
import Derived.Test.YtokkndnicpgdkaaLbI
import Derived.WalkLawsBesides
import Derived.WalkSpells
import Derived.Below
import Derived.Lib.Hide
import Derived.Outline
import Derived.OwnWalk
import Derived.Laws.OwnMore
import Derived.Maps.AppendAt
import Derived.RegionTactic
import Derived.Deep.QuietTactic
import Derived.BigQuiet
import Derived.Deep.Cut
import Derived.Deep.AppendLies
import Derived.Deep.RegionLaw
import Derived.LoopTactic
import Derived.Deep.RegionHeld3
namespace Go.Proofs.Ytokkndnicpgdkaa
open Go.ChangeShapes Go.WideShapes Go.ChangeAt Go.RowKit

set_option linter.unusedVariables false

theorem i64_nat (n : Nat) (h : n ≤ 1000000) : IntKind.i64.wrap (n : Int) = (n : Int) := IntWalk.i64_in _ (by omega)
theorem i64_zero : IntKind.i64.wrap 0 = 0 := IntWalk.i64_in _ (by omega)
theorem w64_nat (n : Nat) (h : n ≤ 1000000) : wrap64 (n : Int) = (n : Int) := by unfold wrap64; omega
/-- What is written on a property, ahead of its value. -/
def hdK (it : Ko) : List Nat := it.kl :: it.pt / 8 :: b01 (decide (it.pt % 2 = 1)) :: b01 (decide (it.pt / 2 % 2 = 1)) :: 0 :: (if dfO it.pt then [1, it.kl, it.pt / 8] else [0])
def hdKo : Option Ko → List Nat
  | some it => hdK it
  | none => []
def flO (its : List Ko) (F : Nat → List Nat) (k : Nat) : List Nat := (List.range k).flatMap fun i => hdKo its[i]? ++ F i
theorem flO_up (its : List Ko) (F : Nat → List Nat) (k : Nat) (it : Ko) (h : its[k]? = some it) : flO its F (k + 1) = flO its F k ++ (hdK it ++ F k) := by unfold flO; rw [List.range_succ, List.flatMap_append, List.flatMap_singleton, h]; rfl
theorem hdK_len (it : Ko) : (hdK it).length ≤ 8 := by unfold hdK; simp only [List.length_cons]; split <;> simp
theorem flO_len (F : Nat → List Nat) (its : List Ko) (hF : ∀ i x, its[i]? = some x → (F i).length + 2 ≤ 16 * x.ws.length) : ∀ k, k ≤ its.length → (flO its F k).length ≤ 16 * (wsO (its.take k)).length := by
  intro k
  induction k with
  | zero => intro _; simp [flO]
  | succ k ih =>
    intro hk
    have hx : its[k]? = some its[k] := List.getElem?_eq_getElem (by omega)
    have h1 := ih (by omega)
    have h2 := hF k _ hx
    have h3 := hdK_len its[k]
    rw [flO_up its F k _ hx, wsO_take its k _ hx, List.length_append, List.length_append, List.length_append]
    simp only [List.length_cons]
    omega
theorem flO_mono (F : Nat → List Nat) (its : List Ko) : ∀ n k, k ≤ n → (flO its F k).length ≤ (flO its F n).length := by
  intro n
  induction n with
  | zero => intro k hk; obtain rfl : k = 0 := by omega
            exact Nat.le_refl _
  | succ n ih =>
    intro k hk
    rcases Nat.lt_or_ge n k with h | h
    · obtain rfl : k = n + 1 := by omega
      exact Nat.le_refl _
    · refine Nat.le_trans (ih k h) ?_
      unfold flO; rw [List.range_succ, List.flatMap_append, List.length_append]; omega
theorem flO_step (F : Nat → List Nat) (its : List Ko) (n k : Nat) (it : Ko) (h : its[k]? = some it) (hk : k < n) : (flO its F k).length + (hdK it).length + (F k).length ≤ (flO its F n).length := by
  have h1 := flO_mono F its n (k + 1) hk
  rw [flO_up its F k it h, List.length_append, List.length_append] at h1
  omega
set_option maxRecDepth 100000 in
set_option maxHeartbeats 40000000 in
theorem full_obj (lo hi : Nat) (w : World) (q l n0 K : Nat) (sg : Bool) (its : List Ko) (F : Nat → List Nat) (n15 : n0 ≤ 15) (hlen : its.length = n0) (hq : Bk w q 73 #[.slice (some ⟨K, 0, none⟩) n0 n0, .int .i32 0, .bool sg]) (hq1 : lo ≤ q) (hq2 : q < hi) (hK1 : lo ≤ K) (hK2 : K < hi) (hrow : RowO w K n0 its)
    (hprops : ∀ i it, its[i]? = some it → PropOk lo hi w (l + 1) its i it) (hkids : ∀ i it, its[i]? = some it → Full it.lo it.hi w it.d it.l (F i)) (hbound : l + 1 + (wsO its).length ≤ 1000000) :
    Full lo hi w (.iface 71 (ptr q)) l (l :: 3 :: n0 :: b01 sg :: flO its F n0) := by
  intro B va vc xs w1 hB hB1 ha hown hlen2 hl
  have hw64 : wrap64 (l : Int) = (l : Int) := by unfold wrap64; omega
  have hqb := ha.bk hq hq1 hq2 (by decide)
  have HQ := Lib.hid hqb
  have HROW := Lib.hid (hrow.move fun cs hb => ha.bk hb hK1 hK2 (by decide))
  have HA := Lib.hid ha
  have HIT := Lib.hid hprops
  have HKID := Lib.hid hkids
  have HLEN := Lib.hid hlen
  have HBD := Lib.hid hbound
  have HL2 := Lib.hid (show xs.length + 4 + (flO its F n0).length ≤ 20000000 by simp only [List.length_cons] at hlen2; omega)
  have hxl : xs.length + 4 ≤ 20000000 := by have := HL2.out; omega
  obtain ⟨n0_, hn0, kz0, kz1, kz2⟩ := info_three info_n
  have own := (hown.alloc (.cells #[.iface 71 (ptr q), .int .i32 (l : Int)] 32)).alloc (.cells #[.int .i64 (l : Int)] 2)
  clear ha hq hqb hrow hkids hprops hlen hlen2 hbound
  go_enter Try.func7, Try.ntmps7
  go_wp2_with (at_builtin; refine wpList_append_own_at _ rfl _ _ 36 rfl B 2 n0_ (.int .i64 0) 1 8 Try.underlying36 hn0 kz0 kz1 kz2 rfl (by decide) _ _ _ rfl own ⟨w1.heap.size + 1, 0, none⟩ 1 1 [.int .i64 (l : Int)] rfl rfl ?c1 ?c2 ?c3 ?c4 ?c5 ?_)
  case c1 => intro j u hj; cases j with | zero => (simp at hj; subst hj; simp [Addr.add]) | succ j => simp at hj
  case c2 => intro u hu; simp at hu; subst hu; rfl
  case c3 => unfold maxLen; omega
  case c4 => omega
  case c5 => simp; omega
  intro v' w2 hown' hgrow _ _
  have bl : Below B w1 w2 := (((Below.refl _ _).alloc hB1 _).alloc (by simp; omega) _).grown hgrow (by simp; omega) (fun k hk => (own.lt k hk).1)
  have b1 : Bk w2 w1.heap.size 32 #[.iface 71 (ptr q), .int .i32 (l : Int)] := ((Bk.new _ _ _).alloc _).grown hgrow (own_ne own ((Bk.new _ _ _).alloc _) (by decide))
  have e0 : w2.cell? ⟨w1.heap.size, 0, none⟩ = some (.iface 71 (ptr q)) := b1.cell 0
  have ze := b1.lt
  have bq := HQ.out.below bl (by omega)
  have q0 : w2.cell? ⟨q, 0, none⟩ = some (.slice (some ⟨K, 0, none⟩) n0 n0) := bq.cell 0
  have q2 : w2.cell? ⟨q, 2, none⟩ = some (.bool sg) := bq.cell 2
  have zq := bq.lt
  have OW := Lib.hid hown'
  have BL := Lib.hid bl
  obtain ⟨g1, k1, rfl⟩ := own_form hown' (by omega)
  have HQ2 := Lib.hid bq
  clear hown' hgrow bl own b1 bq
  have b2 : B ≤ w2.heap.size := by have := BL.out.size; omega
  go_wp2_with fail
  refine (b2i sg w2).mono ?_
  rintro e w' ⟨rfl, rfl⟩
  obtain ⟨w2, rfl⟩ : ∃ x : World, x = w' := ⟨_, rfl⟩
  have own := OW.out.alloc (.cells #[.int .i64 3, .int .i64 (n0 : Int), .int .i64 (b01 sg : Int)] 2)
  have E4 := Lib.hid (show nums (xs ++ [l, 3, n0, b01 sg]) = (nums xs ++ [.int .i64 (l : Int)]) ++ [.int .i64 3, .int .i64 (n0 : Int), .int .i64 (b01 sg : Int)] by rw [nums_app, List.append_assoc]; rfl)
  go_wp2_with (at_builtin; refine hold_at ?_)
  refine ⟨?_⟩
  refine wpList_append_own_at _ rfl _ _ 36 rfl B 2 n0_ (.int .i64 0) 1 8 Try.underlying36 hn0 kz0 kz1 kz2 rfl (by decide) _ _ _ rfl own ⟨w2.heap.size, 0, none⟩ 3 3 [.int .i64 3, .int .i64 (n0 : Int), .int .i64 (b01 sg : Int)] rfl rfl ?sz1 ?sz2 ?sz3 ?sz4 ?sz5 ?_
  case sz1 => intro j u hj; match j, hj with | 0, hj => (simp at hj; subst hj; simp [Addr.add]) | 1, hj => (simp at hj; subst hj; simp [Addr.add]) | 2, hj => (simp at hj; subst hj; simp [Addr.add]) | (j + 3), hj => simp at hj
  case sz2 => intro u hu; simp at hu; rcases hu with rfl | rfl | rfl <;> rfl
  case sz3 => unfold maxLen; omega
  case sz4 => omega
  case sz5 => simp; omega
  intro v3 w3 hown3 hgrow3 _ _
  have bl3 : Below B w1 w3 := (BL.out.alloc b2 _).grown hgrow3 (by simp; omega) (fun k hk => (own.lt k hk).1)
  obtain ⟨g3, k3, rfl⟩ := own_form hown3 (by omega)
  have HC : Hid (w3.ownsRow B 2 1 (.slice (some ⟨g3, 0, none⟩) (xs.length + 1 + 3) k3) (xs.length + 1 + 3) (nums (xs ++ [l, 3, n0, b01 sg])) ∧ Below B w1 w3) := Lib.hid ⟨by rw [E4.out]; exact hown3, bl3⟩
  clear hown3 hgrow3 own bl3 E4
  as_aux_lemma =>
    clear e0 q0 q2 OW BL zq ze HQ2
    have hw0 : wrap64 0 = 0 := by unfold wrap64; omega
    have e5 : (xs ++ [l, 3, n0, b01 sg]).length = xs.length + 1 + 3 := by simp
    have E5 := Lib.hid e5
    clear e5
    go_wp2_with fail
    go_loopw [1, 21] (fun o v wr => ∃ (k : Nat) (a : Option Addr) (kc : Nat) (ys : List Nat), k ≤ n0 ∧ v = .int .i64 k ∧ o = .slice a ys.length kc ∧ Hid (ys = xs ++ (l :: 3 :: n0 :: b01 sg :: flO its F k) ∧ wr.ownsRow B 2 1 (.slice a ys.length kc) ys.length (nums ys) ∧ Below B w1 wr)) (fun _ v _ => n0 - (intOf v).toNat)
    case atStart => as_aux_lemma =>
      exact ⟨0, some ⟨g3, 0, none⟩, k3, xs ++ [l, 3, n0, b01 sg], by omega, rfl, by rw [E5.out], by simp [flO], by rw [E5.out]; exact HC.out.1, HC.out.2⟩
    case round =>
      obtain ⟨k, a, kc, ys, hk, rfl, rfl, H⟩ := hrel
      have szr := H.out.2.2.size
      have bR : B ≤ wr.heap.size := by omega
      by_cases hlt : k < n0
      · obtain ⟨it, hit⟩ : ∃ it, its[k]? = some it := ⟨_, List.getElem?_eq_getElem (by have := HLEN.out; omega)⟩
        have bq := HQ.out.below H.out.2.2 (by omega)
        have q0 : wr.cell? ⟨q, 0, none⟩ = some (.slice (some ⟨K, 0, none⟩) n0 n0) := bq.cell 0
        have zqr := bq.lt
        obtain ⟨f, hrw, hf, hz⟩ := HROW.out.move fun cs hb => hb.below H.out.2.2 (by omega)
        obtain ⟨⟨a0, a1, a4, a5, a8, a9⟩, a2, a3⟩ := hf k it hit
        obtain ⟨a6, a7, a10, -⟩ := hz k hlt
        have v0 := hrw.cell (i := k) (j := 0) hlt (by omega)
        rw [a0] at v0
        have v1 := hrw.cell (i := k) (j := 1) hlt (by omega)
        rw [a1] at v1
        have v2 := hrw.cell (i := k) (j := 2) hlt (by omega)
        rw [a2] at v2
        have v3 := hrw.cell (i := k) (j := 3) hlt (by omega)
        rw [a3] at v3
        have v4 := hrw.cell (i := k) (j := 4) hlt (by omega)
        rw [a4] at v4
        have v5 := hrw.cell (i := k) (j := 5) hlt (by omega)
        rw [a5] at v5
        have v6 := hrw.cell (i := k) (j := 6) hlt (by omega)
        rw [a6] at v6
        have v7 := hrw.cell (i := k) (j := 7) hlt (by omega)
        rw [a7] at v7
        have v8 := hrw.cell (i := k) (j := 8) hlt (by omega)
        rw [a8] at v8
        have v9 := hrw.cell (i := k) (j := 9) hlt (by omega)
        rw [a9] at v9
        have v10 := hrw.cell (i := k) (j := 10) hlt (by omega)
        rw [a10] at v10
        rw [Nat.add_zero] at v0
        have zKr := hrw.lt
        have IT := Lib.hid (HIT.out _ it hit)
        have KT := Lib.hid (HKID.out _ it hit)
        have HX := Lib.hid hit
        have hyl : ys.length = xs.length + 4 + (flO its F k).length := by rw [H.out.1]; simp; omega
        have YL := Lib.hid hyl
        have LE := Lib.hid (flO_step F its n0 k it hit hlt)
        have yb : ys.length ≤ 20000000 := by have := HL2.out; have := LE.out; omega
        have WL := wsO_le its k it hit
        have klb : it.kl ≤ 1000000 ∧ it.l ≤ 1000000 := by have h1 := IT.out.1; have h2 := IT.out.2.1; have := HBD.out; omega
        clear WL
        obtain ⟨T, g, li, loi, hii, wsi, pti, kli, kgi, dgi⟩ := it
        have hpt : pti < 4294967296 := IT.out.2.2.1
        have h9 : hii ≤ hi := IT.out.2.2.2.2.2.2.2.2
        have BK := Lib.hid ((HA.out.bk IT.out.2.2.2.2.2.1 IT.out.2.2.2.1 IT.out.2.2.2.2.1 (by decide)).below H.out.2.2 (by have h1 : kgi < hi := IT.out.2.2.2.2.1; show kgi < B; omega))
        have DK := Lib.hid (show dfO pti = true → ∀ wy, Below B w1 wy → Bk wy dgi 68 #[.float .f64 (fb (pti / 8))] from fun hd wy hwy => ((HA.out.bk (IT.out.2.2.2.2.2.2.1 hd).2.2 (IT.out.2.2.2.2.2.2.1 hd).1 (IT.out.2.2.2.2.2.2.1 hd).2.1 (by decide)).below hwy (by have h1 : dgi < hi := (IT.out.2.2.2.2.2.2.1 hd).2.1; show dgi < B; omega)))
        have hkl : kli ≤ 1000000 := klb.1
        have hli : li ≤ 1000000 := klb.2
        simp only [Ko.d] at v2
        clear hrw hf hz hit bq hyl a0 a1 a2 a3 a4 a5 a6 a7 a8 a9 a10 klb
        dsimp only at v0 v1 v2 v3 v4 v5 v8 v9
        obtain ⟨b1, hb1⟩ : ∃ b1, b1 = decide (pti % 2 = 1) := ⟨_, rfl⟩
        obtain ⟨b2, hb2⟩ : ∃ b2, b2 = decide (pti / 2 % 2 = 1) := ⟨_, rfl⟩
        obtain ⟨dv, hdv⟩ : ∃ dv : Value, dv = (if dfO pti then Num dgi else .nilIface) := ⟨_, rfl⟩
        obtain ⟨dl, hdl⟩ : ∃ dl : Int, dl = (if dfO pti then (kli : Int) else 0) := ⟨_, rfl⟩
        rw [← hb1] at v9
        rw [← hb2] at v8
        rw [← hdv] at v4
        rw [← hdl] at v5
        obtain ⟨m, hm⟩ : ∃ m, m = pti / 8 := ⟨_, rfl⟩
        have hm29 : m < 536870912 := by omega
        obtain ⟨bd, hbd⟩ : ∃ bd, bd = dfO pti := ⟨_, rfl⟩
        have hD : (dv = .nilIface ∧ bd = false) ∨ (dv = Num dgi ∧ dl = (kli : Int) ∧ bd = true) := by
          rw [← hbd] at hdv hdl
          cases bd
          · left; exact ⟨by rw [hdv]; rfl, rfl⟩
          · right; exact ⟨by rw [hdv]; rfl, by rw [hdl]; rfl, rfl⟩
        have HD := Lib.hid hD
        have HK := Lib.hid (show hdK ⟨T, g, li, loi, hii, wsi, pti, kli, kgi, dgi⟩ = [kli, m, b01 b1, b01 b2, 0] ++ (if bd then [1, kli, m] else [0]) by unfold hdK; rw [hm, hb1, hb2, hbd]; rfl)
        have NK : Hid (Bk wr kgi 68 #[.float .f64 (fb m)]) := by rw [hm]; exact BK.out
        have DKB : Hid (bd = true → ∀ wy, Below B w1 wy → Bk wy dgi 68 #[.float .f64 (fb m)]) := by rw [hm, hbd]; exact DK
        have hwk : wrap64 (kli : Int) = (kli : Int) := w64_nat kli hkl
        have hwk2 : IntKind.i64.wrap (kli : Int) = (kli : Int) := i64_nat kli hkl
        have hw02 : IntKind.i64.wrap 0 = 0 := i64_zero
        clear hb1 hb2 hdv hdl hm hbd hD BK DK
        go_upto_region 39 with fail
        obtain ⟨w5, hw5⟩ : ∃ w5, w5 = wr.alloc (.cells #[Num kgi, .int .i32 (kli : Int), .iface T (ptr g), .int .i32 (li : Int), dv, .int .i32 dl, .int .i32 0, .int .i32 0, .bool b2, .bool b1, .bool false] 70) := ⟨_, rfl⟩
        have HW5 := Lib.hid hw5
        go_cut [22] from 175 to 249 (fun s wx => s = .pointer (some ⟨wr.heap.size, 0, none⟩) ∧ wx = w5)
        case first => as_aux_lemma =>
          rcases HD.out with ⟨rfl, -⟩ | ⟨rfl, -, -⟩
          all_goals
            go_wp2_with fail
            go_meet
            case rel => exact ⟨rfl, HW5.out.symm⟩
        as_aux_lemma =>
        obtain ⟨rfl, rfl⟩ := hcut
        obtain ⟨w5, rfl⟩ : ∃ x : World, x = wc := ⟨_, rfl⟩
        have HW5 := Lib.hid hw5
        have bx : Bk w5 wr.heap.size 70 #[Num kgi, .int .i32 (kli : Int), .iface T (ptr g), .int .i32 (li : Int), dv, .int .i32 dl, .int .i32 0, .int .i32 0, .bool b2, .bool b1, .bool false] := by rw [hw5]; exact Bk.new _ _ _
        have HBX := Lib.hid bx
        have x0 : w5.cell? ⟨wr.heap.size, 0, none⟩ = some (Num kgi) := bx.cell 0
        have x1 : w5.cell? ⟨wr.heap.size, 1, none⟩ = some (.int .i32 (kli : Int)) := bx.cell 1
        have zx5 := bx.lt
        have BL5 : Hid (Below wr.heap.size wr w5) := by rw [hw5]; exact Lib.hid ((Below.refl _ _).alloc (Nat.le_refl _) _)
        have NK5 : Hid (Bk w5 kgi 68 #[.float .f64 (fb m)]) := Lib.hid (NK.out.later BL5.out)
        clear hw5 HW5 bx v0 v1 v2 v3 v4 v5 v6 v7 v8 v9 v10 q0
        go_wp2_with fail
        refine (num_word w5 kgi m kli hm29 NK5.out).mono ?_
        rintro e w6 ⟨rfl, hb6⟩
        have BL6 := Lib.hid (BL5.out.trans (hb6.mono BL5.out.size))
        have HBX6 := Lib.hid (HBX.out.later hb6)
        clear hb6 HBX x0 x1 BL5 NK5 zx5
        have x1 : w6.cell? ⟨wr.heap.size, 1, none⟩ = some (.int .i32 (kli : Int)) := HBX6.out.cell 1
        have x6 : w6.cell? ⟨wr.heap.size, 6, none⟩ = some (.int .i32 0) := HBX6.out.cell 6
        have x8 : w6.cell? ⟨wr.heap.size, 8, none⟩ = some (.bool b2) := HBX6.out.cell 8
        have x9 : w6.cell? ⟨wr.heap.size, 9, none⟩ = some (.bool b1) := HBX6.out.cell 9
        have zx6 := HBX6.out.lt
        have OW6 : Hid (w6.ownsRow B 2 1 (.slice a ys.length kc) ys.length (nums ys)) := Lib.hid (own_below H.out.2.1 BL6.out)
        have BB6 : Hid (Below B w1 w6) := Lib.hid (H.out.2.2.trans (BL6.out.mono bR))
        have b6 : B ≤ w6.heap.size := by have := BB6.out.size; omega
        go_upto_region 43 with fail
        go_cut [1] from 175 to 249 (fun s wx => ∃ (gq : Nat) (c : Nat), s = .slice (some ⟨gq, 0, none⟩) (ys.length + 5) c ∧ Hid (wx.ownsRow B 2 1 (.slice (some ⟨gq, 0, none⟩) (ys.length + 5) c) (ys.length + 5) (nums (ys ++ [kli, m, b01 b1, b01 b2, 0])) ∧ Below B w1 wx ∧ Bk wx wr.heap.size 70 #[Num kgi, .int .i32 (kli : Int), .iface T (ptr g), .int .i32 (li : Int), dv, .int .i32 dl, .int .i32 0, .int .i32 0, .bool b2, .bool b1, .bool false]))
        case first => as_aux_lemma =>
          have e4 : nums (ys ++ [kli, m, b01 b1, b01 b2, 0]) = nums ys ++ [.int .i64 (kli : Int), .int .i64 (m : Int), .int .i64 (b01 b1 : Int), .int .i64 (b01 b2 : Int), .int .i64 0] := by rw [nums_app]; rfl
          have E4 := Lib.hid e4
          have KRx : ∀ w3, ((w6.alloc (.cells #[.int .i64 (kli : Int), .int .i64 (m : Int), .int .i64 (b01 b1 : Int), .int .i64 (b01 b2 : Int), .int .i64 0] 2)).drew).grownBy w3 (Value.slice a ys.length kc).ownBlock → Hid (Bk w3 wr.heap.size 70 #[Num kgi, .int .i32 (kli : Int), .iface T (ptr g), .int .i32 (li : Int), dv, .int .i32 dl, .int .i32 0, .int .i32 0, .bool b2, .bool b1, .bool false]) ∧ Hid (Below B w1 w3) := by
            intro w3 hg3
            have own := (OW6.out.alloc (.cells #[.int .i64 (kli : Int), .int .i64 (m : Int), .int .i64 (b01 b1 : Int), .int .i64 (b01 b2 : Int), .int .i64 0] 2)).drew
            have hb := (HBX6.out.alloc (.cells #[.int .i64 (kli : Int), .int .i64 (m : Int), .int .i64 (b01 b1 : Int), .int .i64 (b01 b2 : Int), .int .i64 0] 2)).drew
            exact ⟨Lib.hid (hb.grown hg3 (own_ne own hb (by decide))), Lib.hid (((BB6.out.alloc b6 _).drew).grown hg3 (by simp; omega) (fun k hk => (own.lt k hk).1))⟩
          clear e4
          go_region_held3 (fun w' => w'.cell? ⟨wr.heap.size, 1, none⟩ = some (.int .i32 (kli : Int)) ∧ w'.cell? ⟨wr.heap.size, 6, none⟩ = some (.int .i32 0) ∧ w'.cell? ⟨wr.heap.size, 8, none⟩ = some (.bool b2) ∧ w'.cell? ⟨wr.heap.size, 9, none⟩ = some (.bool b1)) (first | exact ⟨HBX6.out.drew.cell 1, HBX6.out.drew.cell 6, HBX6.out.drew.cell 8, HBX6.out.drew.cell 9⟩ | exact ⟨((HBX6.out.alloc _).drew).cell 1, ((HBX6.out.alloc _).drew).cell 6, ((HBX6.out.alloc _).drew).cell 8, ((HBX6.out.alloc _).drew).cell 9⟩ | exact ⟨KR.out.cell 1, KR.out.cell 6, KR.out.cell 8, KR.out.cell 9⟩) (first | (go_at_call 13; refine (b2i _ _).mono ?_; rintro e w' ⟨rfl, rfl⟩) | (refine step_append_lies _ (by rfl) _ _ _ (by rfl) B 2 n0_ _ 1 8 Try.underlying36 hn0 kz0 kz1 kz2 rfl (by omega) (.slice a ys.length kc) _ _ (by rfl) ((OW6.out.alloc _).drew) ⟨w6.heap.size, 0, none⟩ 5 5 [.int .i64 (kli : Int), .int .i64 (m : Int), .int .i64 (b01 b1 : Int), .int .i64 (b01 b2 : Int), .int .i64 0] (by rfl) (by rfl) (World.news_of_block (cs := #[.int .i64 (kli : Int), .int .i64 (m : Int), .int .i64 (b01 b1 : Int), .int .i64 (b01 b2 : Int), .int .i64 0]) (t := 2) (fr := (0, 0)) (heap_alloc_new w6 _)) (by simp [Value.oneCell']) (by omega) (by unfold maxLen; omega) (by omega) (by simp; omega) (w6.heap.size + 1) (by simp) ?_; intro gg cap w3 hown3 hgrow3 hat hlt; have KR := (KRx _ hgrow3).1; have bl3 := (KRx _ hgrow3).2; have OW3 := Lib.hid hown3; clear hown3 hgrow3 hat hlt))
          all_goals
            go_wp2_with fail
            go_meet
            case rel => exact ⟨gg, cap, rfl, by rw [E4.out]; exact OW3.out, bl3.out, KR.out⟩
        as_aux_lemma =>
          obtain ⟨g7, k7, rfl, HC7⟩ := hcut
          obtain ⟨w7, rfl⟩ : ∃ x : World, x = wc := ⟨_, rfl⟩
          clear x1 x6 x8 x9 OW6 zx6
          have x4 : w7.cell? ⟨wr.heap.size, 4, none⟩ = some dv := HC7.out.2.2.cell 4
          have zx7 := HC7.out.2.2.lt
          have b7 : B ≤ w7.heap.size := by have := HC7.out.2.1.size; omega
          go_upto_region 44 with fail
          go_cut [218] from 175 to 249 (fun s wx => s = .bool bd ∧ wx = w7)
          case first => as_aux_lemma =>
            rcases HD.out with ⟨rfl, rfl⟩ | ⟨rfl, -, rfl⟩
            all_goals
              go_wp2_with fail
              go_meet
              case rel => exact ⟨rfl, rfl⟩
          as_aux_lemma =>
            obtain ⟨rfl, rfl⟩ := hcut
            obtain ⟨w7, rfl⟩ : ∃ x : World, x = wc := ⟨_, rfl⟩
            go_upto_if 218 with fail
            go_cut [1, 25, 26] from 175 to 249 (fun s _ _ wx => ∃ (gq c : Nat) (us : List Nat), s = .slice (some ⟨gq, 0, none⟩) us.length c ∧ us.length ≤ ys.length + 8 ∧ Hid (us = ys ++ ([kli, m, b01 b1, b01 b2, 0] ++ (if bd then [1, kli, m] else [0])) ∧ wx.ownsRow B 2 1 (.slice (some ⟨gq, 0, none⟩) us.length c) us.length (nums us) ∧ Below B w1 wx ∧ Bk wx wr.heap.size 70 #[Num kgi, .int .i32 (kli : Int), .iface T (ptr g), .int .i32 (li : Int), dv, .int .i32 dl, .int .i32 0, .int .i32 0, .bool b2, .bool b1, .bool false]))
            case first => as_aux_lemma =>
              rcases HD.out with ⟨rfl, rfl⟩ | ⟨rfl, rfl, rfl⟩
              · have own := HC7.out.1.alloc (.cells #[.int .i64 0] 2)
                go_wp2_with (at_builtin; refine hold_at ?_)
                refine ⟨?_⟩
                refine wpList_append_own_at _ rfl _ _ 36 rfl B 2 n0_ (.int .i64 0) 1 8 Try.underlying36 hn0 kz0 kz1 kz2 rfl (by decide) _ _ _ rfl own ⟨w7.heap.size, 0, none⟩ 1 1 [.int .i64 0] rfl rfl ?sa1 ?sa2 ?sa3 ?sa4 ?sa5 ?_
                case sa1 => intro j u hj; cases j with | zero => (simp at hj; subst hj; simp [Addr.add]) | succ j => simp at hj
                case sa2 => intro u hu; simp at hu; subst hu; rfl
                case sa3 => unfold maxLen; omega
                case sa4 => omega
                case sa5 => simp; omega
                intro v8 w8 hown8 hgrow8 _ _
                have bl8 : Below B w1 w8 := (HC7.out.2.1.alloc b7 _).grown hgrow8 (by simp; omega) (fun k hk => (own.lt k hk).1)
                have bx8 := Bk.grown (HC7.out.2.2.alloc _) hgrow8 (own_ne own (HC7.out.2.2.alloc _) (by decide))
                obtain ⟨g8, k8, rfl⟩ := own_form hown8 (by omega)
                have OW8 := Lib.hid hown8
                have BL8 := Lib.hid bl8
                have HBX8 := Lib.hid bx8
                clear hown8 hgrow8 bl8 own bx8 x4
                go_wp2_with fail
                go_meet
                case rel => exact ⟨g8, k8, ys ++ ([kli, m, b01 b1, b01 b2, 0] ++ [0]), by simp, by simp, rfl, by
                  have e : nums (ys ++ ([kli, m, b01 b1, b01 b2, 0] ++ [0])) = nums (ys ++ [kli, m, b01 b1, b01 b2, 0]) ++ [.int .i64 0] := by rw [← List.append_assoc, nums_app (ys ++ _)]; rfl
                  have e5 : (ys ++ ([kli, m, b01 b1, b01 b2, 0] ++ [0])).length = ys.length + 5 + 1 := by simp
                  rw [e, e5]; exact OW8.out, BL8.out, HBX8.out⟩
              · have x5 : w7.cell? ⟨wr.heap.size, 5, none⟩ = some (.int .i32 (kli : Int)) := HC7.out.2.2.cell 5
                have DK7 := Lib.hid (DKB.out rfl w7 HC7.out.2.1)
                go_wp2_with fail
                refine (num_word w7 dgi m kli hm29 DK7.out).mono ?_
                rintro e w8 ⟨rfl, hb8⟩
                have BL8 := Lib.hid (HC7.out.2.1.trans (hb8.mono b7))
                have HBX8 := Lib.hid (HC7.out.2.2.later hb8)
                have OW8 := Lib.hid (own_below HC7.out.1 hb8)
                have x5 : w8.cell? ⟨wr.heap.size, 5, none⟩ = some (.int .i32 (kli : Int)) := HBX8.out.cell 5
                have zx8 := HBX8.out.lt
                have b8 : B ≤ w8.heap.size := by have := BL8.out.size; omega
                have own := OW8.out.alloc (.cells #[.int .i64 1, .int .i64 (kli : Int), .int .i64 (m : Int)] 2)
                clear x4 hb8
                go_wp2_with (at_builtin; refine hold_at ?_)
                refine ⟨?_⟩
                refine wpList_append_own_at _ rfl _ _ 36 rfl B 2 n0_ (.int .i64 0) 1 8 Try.underlying36 hn0 kz0 kz1 kz2 rfl (by decide) _ _ _ rfl own ⟨w8.heap.size, 0, none⟩ 3 3 [.int .i64 1, .int .i64 (kli : Int), .int .i64 (m : Int)] rfl rfl ?sb1 ?sb2 ?sb3 ?sb4 ?sb5 ?_
                case sb1 => intro j u hj; match j, hj with | 0, hj => (simp at hj; subst hj; simp [Addr.add]) | 1, hj => (simp at hj; subst hj; simp [Addr.add]) | 2, hj => (simp at hj; subst hj; simp [Addr.add]) | (j + 3), hj => simp at hj
                case sb2 => intro u hu; simp at hu; rcases hu with rfl | rfl | rfl <;> rfl
                case sb3 => unfold maxLen; omega
                case sb4 => omega
                case sb5 => simp; omega
                intro v9 w9 hown9 hgrow9 _ _
                have bl9 : Below B w1 w9 := (BL8.out.alloc b8 _).grown hgrow9 (by simp; omega) (fun k hk => (own.lt k hk).1)
                have bx9 := Bk.grown (HBX8.out.alloc _) hgrow9 (own_ne own (HBX8.out.alloc _) (by decide))
                obtain ⟨g9, k9, rfl⟩ := own_form hown9 (by omega)
                have OW9 := Lib.hid hown9
                have BL9 := Lib.hid bl9
                have HBX9 := Lib.hid bx9
                clear hown9 hgrow9 bl9 own bx9 x5
                go_wp2_with fail
                go_meet
                case rel => exact ⟨g9, k9, ys ++ ([kli, m, b01 b1, b01 b2, 0] ++ [1, kli, m]), by simp, by simp, rfl, by
                  have e : nums (ys ++ ([kli, m, b01 b1, b01 b2, 0] ++ [1, kli, m])) = nums (ys ++ [kli, m, b01 b1, b01 b2, 0]) ++ [.int .i64 1, .int .i64 (kli : Int), .int .i64 (m : Int)] := by rw [← List.append_assoc, nums_app (ys ++ _)]; rfl
                  have e5 : (ys ++ ([kli, m, b01 b1, b01 b2, 0] ++ [1, kli, m])).length = ys.length + 5 + 3 := by simp
                  rw [e, e5]; exact OW9.out, BL9.out, HBX9.out⟩
            as_aux_lemma =>
              obtain ⟨g8, k8, us, rfl, hul, HC8⟩ := hcut
              obtain ⟨w8, rfl⟩ : ∃ x : World, x = wc := ⟨_, rfl⟩
              clear x4 HC7 zx7
              have x2 : w8.cell? ⟨wr.heap.size, 2, none⟩ = some (.iface T (ptr g)) := HC8.out.2.2.2.cell 2
              have x3 : w8.cell? ⟨wr.heap.size, 3, none⟩ = some (.int .i32 (li : Int)) := HC8.out.2.2.2.cell 3
              have zx8 := HC8.out.2.2.2.lt
              go_wp2_with fail
              refine (KT.out B (some ⟨g8, 0, none⟩) k8 us w8 (by show hii ≤ B; omega) (by have := HC8.out.2.2.1.size; omega) ((HA.out.sub IT.out.2.2.2.2.2.2.2.1 IT.out.2.2.2.2.2.2.2.2).trans (agreeT_below HC8.out.2.2.1 (by show hii ≤ B; omega))) HC8.out.2.1 (by have h1 := LE.out; have h2 := YL.out; have h3 := HL2.out; have h4 := HK.out; have h5 := HC8.out.1; rw [h4] at h1; rw [h5, List.length_append]; omega) hli).mono ?_
              rintro e wz ⟨a9, k9, rfl, ho9, hb9⟩
              obtain ⟨ts, hts⟩ : ∃ ts, ts = us ++ F k := ⟨_, rfl⟩
              have ho9' : wz.ownsRow B 2 1 (.slice a9 ts.length k9) ts.length (nums ts) := by rw [hts]; exact ho9
              have O9 := Lib.hid ho9'
              have B9 := Lib.hid (HC8.out.2.2.1.trans hb9)
              show _
              rw [show (Value.slice a9 (us ++ F k).length k9) = .slice a9 ts.length k9 by rw [hts]]
              have HTS := Lib.hid hts
              clear ho9 ho9' hb9 hts
              go_wp2_with fail
              go_roundw
              case rel => exact ⟨k + 1, a9, k9, ts, by omega, by go_num, rfl, by rw [HTS.out, HC8.out.1, ← HK.out, flO_up its F k _ HX.out, H.out.1]; simp, O9.out, B9.out⟩
              case measure => simp [intOf]; omega
      · as_aux_lemma =>
        have kn : k = n0 := by omega
        have e1 : xs ++ (l :: 3 :: n0 :: b01 sg :: flO its F n0) = ys := by rw [H.out.1, kn]
        have E1 := Lib.hid e1
        clear e1 kn
        go_wp2_with fail
        go_ret2
        rw [E1.out]
        exact ⟨a, kc, rfl, H.out.2.1, H.out.2.2⟩

end Go.Proofs.Ytokkndnicpgdkaa
