/-
  The two serialisers of bindings on nodes without children; no statement of its own.
-/
import Derived.Test.YtokkndnicpgdkaaRows
import Derived.WalkKit
import Derived.ProofKit
import Derived.OpenShut
import Derived.Test.YtokkndnicpgdkaaSlW
import Derived.Test.YtokkndnicpgdkaaCbW
import Derived.Test.YtokkndnicpgdkaaLbA
import Derived.Test.YtokkndnicpgdkaaLbR
import Derived.Test.YtokkndnicpgdkaaLbE
import Derived.Test.YtokkndnicpgdkaaLbB
import Derived.WalkLawsBesides
import Derived.WalkSpells
import Derived.Below
import Derived.Lib.Hide
import Derived.Outline
import Derived.OwnWalk
import Derived.Laws.OwnMore
import Derived.Maps.AppendAt
import Derived.RegionTactic
import Derived.Deep.QuietTactic
import Derived.BigQuiet
import Derived.Deep.Cut
import Derived.Deep.AppendLies
import Derived.Deep.RegionLaw
namespace Go.Proofs.Ytokkndnicpgdkaa
open Go.ChangeShapes Go.WideShapes Go.ChangeAt Go.RowKit

set_option linter.unusedVariables false

set_option maxRecDepth 100000 in
set_option maxHeartbeats 1000000 in
theorem serb_missing (lo hi : Nat) (w : World) (g l : Nat) : SerB lo hi w (.iface 49 (ptr g)) l [0] := by
  intro B va vc xs w1 hB hB1 ha hown hlen
  simp only [List.length_singleton] at hlen
  obtain ⟨i0, hi0, hz0, hz1, hz2⟩ := info_three info_w
  have own := (hown.alloc (.cells #[.iface 49 (ptr g), .int .i32 (l : Int)] 32)).alloc (.cells #[.int .u32 0] 48)
  clear ha
  go_enter Try.func6, Try.ntmps6
  go_wp2_with (at_builtin; refine wpList_append_own_at _ rfl _ _ 22 rfl B 48 i0 (.int .u32 0) 1 4 Try.underlying22 hi0 hz0 hz1 hz2 rfl (by decide) _ _ _ rfl own ⟨w1.heap.size + 1, 0, none⟩ 1 1 [.int .u32 0] rfl rfl ?c1 ?c2 ?c3 ?c4 ?c5 ?_)
  case c1 => intro j u hj; cases j with | zero => (simp at hj; subst hj; simp [Addr.add]) | succ j => simp at hj
  case c2 => intro u hu; simp at hu; subst hu; rfl
  case c3 => unfold maxLen; omega
  case c4 => omega
  case c5 => simp; omega
  intro v' w2 hown' hgrow _ _
  have bl : Below B w1 w2 := (((Below.refl _ _).alloc hB1 _).alloc (by simp; omega) _).grown hgrow (by simp; omega) (fun k hk => (own.lt k hk).1)
  have OW := Lib.hid hown'
  have BL := Lib.hid bl
  obtain ⟨g1, k1, rfl⟩ := own_form hown' (by omega)
  clear hown' hgrow bl own
  go_wp2_with fail
  go_ret2
  exact ser_end (by rw [words_app]; exact OW.out) (by simp) (by omega) rfl BL.out
set_option maxRecDepth 100000 in
set_option maxHeartbeats 1000000 in
theorem serb_ident (lo hi : Nat) (w : World) (q l x : Nat) (hx : x < 1073741824) (hq : Bk w q 57 #[.int .u32 0, .int .u32 (x : Int)]) (h1 : lo ≤ q) (h2 : q < hi) : SerB lo hi w (.iface 52 (ptr q)) l [4 * x + 1] := by
  intro B va vc xs w1 hB hB1 ha hown hlen
  have hq1 := ha.bk hq h1 h2 (by decide)
  have q0 : w1.cell? ⟨q, 0, none⟩ = some (.int .u32 0) := hq1.cell 0
  have q1 : w1.cell? ⟨q, 1, none⟩ = some (.int .u32 (x : Int)) := hq1.cell 1
  have zq := hq1.lt
  simp only [List.length_singleton] at hlen
  obtain ⟨i0, hi0, hz0, hz1, hz2⟩ := info_three info_w
  obtain ⟨y, hy⟩ : ∃ y, y = 4 * x + 1 := ⟨_, rfl⟩
  have hw : bits .or .u32 1 ((x : Int) * 4 % 4294967296) = (y : Int) := by
    have h := or_low 1 x 2 (by omega) (by omega) (by omega)
    rw [show (x : Int) * 4 % 4294967296 = ((2 ^ 2 * x : Nat) : Int) by omega, show (1 : Int) = ((1 : Nat) : Int) from rfl, h]; omega
  rw [← hy]
  have own := (hown.alloc (.cells #[.iface 52 (ptr q), .int .i32 (l : Int)] 32)).alloc (.cells #[.int .u32 (y : Int)] 48)
  have hge : decide ((1073741824 : Int) ≤ (x : Int)) = false := by simp; omega
  clear ha hq hq1 hx hy
  go_enter Try.func6, Try.ntmps6
  go_wp2_with (at_builtin; refine wpList_append_own_at _ rfl _ _ 22 rfl B 48 i0 (.int .u32 0) 1 4 Try.underlying22 hi0 hz0 hz1 hz2 rfl (by decide) _ _ _ rfl own ⟨w1.heap.size + 1, 0, none⟩ 1 1 [.int .u32 (y : Int)] rfl rfl ?c1 ?c2 ?c3 ?c4 ?c5 ?_)
  case c1 => intro j u hj; cases j with | zero => (simp at hj; subst hj; simp [Addr.add]) | succ j => simp at hj
  case c2 => intro u hu; simp at hu; subst hu; rfl
  case c3 => unfold maxLen; omega
  case c4 => omega
  case c5 => simp; omega
  intro v' w2 hown' hgrow _ _
  have bl : Below B w1 w2 := (((Below.refl _ _).alloc hB1 _).alloc (by simp; omega) _).grown hgrow (by simp; omega) (fun k hk => (own.lt k hk).1)
  have OW := Lib.hid hown'
  have BL := Lib.hid bl
  obtain ⟨g1, k1, rfl⟩ := own_form hown' (by omega)
  clear hown' hgrow bl own
  go_wp2_with fail
  go_ret2
  exact ser_end (by rw [words_app]; exact OW.out) (by simp) (by omega) rfl BL.out
theorem full_end {B n : Nat} {w1 w2 : World} {xs fs : List Nat} {v : Value} {e : Ending} (hown : w2.ownsRow B 2 1 v n (nums (xs ++ fs))) (hn : n = (xs ++ fs).length) (h0 : 0 < n) (he : e = .returned (.tuple #[v, .bool true])) (hb : Below B w1 w2) : ∃ a k, e = .returned (.tuple #[.slice a (xs ++ fs).length k, .bool true]) ∧ w2.ownsRow B 2 1 (.slice a (xs ++ fs).length k) (xs ++ fs).length (nums (xs ++ fs)) ∧ Below B w1 w2 := by
  obtain ⟨g, k, rfl⟩ := own_form hown h0
  subst hn
  exact ⟨_, _, he, hown, hb⟩
set_option maxRecDepth 100000 in
set_option maxHeartbeats 1000000 in
theorem full_missing (lo hi : Nat) (w : World) (g l : Nat) : Full lo hi w (.iface 49 (ptr g)) l [l, 0] := by
  intro B va vc xs w1 hB hB1 ha hown hlen hl
  have hw64 : wrap64 (l : Int) = (l : Int) := by unfold wrap64; omega
  simp only [List.length_cons, List.length_nil] at hlen
  clear ha
  obtain ⟨n0_, hn0, kz0, kz1, kz2⟩ := info_three info_n
  have own := (hown.alloc (.cells #[.iface 49 (ptr g), .int .i32 (l : Int)] 32)).alloc (.cells #[.int .i64 (l : Int)] 2)
  go_enter Try.func7, Try.ntmps7
  go_wp2_with (at_builtin; refine wpList_append_own_at _ rfl _ _ 36 rfl B 2 n0_ (.int .i64 0) 1 8 Try.underlying36 hn0 kz0 kz1 kz2 rfl (by decide) _ _ _ rfl own ⟨w1.heap.size + 1, 0, none⟩ 1 1 [.int .i64 (l : Int)] rfl rfl ?c1 ?c2 ?c3 ?c4 ?c5 ?_)
  case c1 => intro j u hj; cases j with | zero => (simp at hj; subst hj; simp [Addr.add]) | succ j => simp at hj
  case c2 => intro u hu; simp at hu; subst hu; rfl
  case c3 => unfold maxLen; omega
  case c4 => omega
  case c5 => simp; omega
  intro v' w2 hown' hgrow _ _
  have bl : Below B w1 w2 := (((Below.refl _ _).alloc hB1 _).alloc (by simp; omega) _).grown hgrow (by simp; omega) (fun k hk => (own.lt k hk).1)
  have b1 : Bk w2 w1.heap.size 32 #[.iface 49 (ptr g), .int .i32 (l : Int)] := ((Bk.new _ _ _).alloc _).grown hgrow (own_ne own ((Bk.new _ _ _).alloc _) (by decide))
  have e0 : w2.cell? ⟨w1.heap.size, 0, none⟩ = some (.iface 49 (ptr g)) := b1.cell 0
  have ze := b1.lt
  have OW := Lib.hid hown'
  have BL := Lib.hid bl
  obtain ⟨g1, k1, rfl⟩ := own_form hown' (by omega)
  clear hown' hgrow bl own b1
  have b2 : B ≤ w2.heap.size := by have := BL.out.size; omega
  have own := OW.out.alloc (.cells #[.int .i64 0] 2)
  go_wp2_with (at_builtin; refine wpList_append_own_at _ rfl _ _ 36 rfl B 2 n0_ (.int .i64 0) 1 8 Try.underlying36 hn0 kz0 kz1 kz2 rfl (by decide) _ _ _ rfl own ⟨w2.heap.size, 0, none⟩ 1 1 [.int .i64 0] rfl rfl ?c1 ?c2 ?c3 ?c4 ?c5 ?_)
  case c1 => intro j u hj; cases j with | zero => (simp at hj; subst hj; simp [Addr.add]) | succ j => simp at hj
  case c2 => intro u hu; simp at hu; subst hu; rfl
  case c3 => unfold maxLen; omega
  case c4 => omega
  case c5 => simp; omega
  intro v3 w3 hown3 hgrow3 _ _
  have bl3 := Lib.hid ((BL.out.alloc b2 _).grown hgrow3 (by simp; omega) (fun k hk => (own.lt k hk).1))
  have OW3 := Lib.hid hown3
  obtain ⟨g3, k3, rfl⟩ := own_form hown3 (by omega)
  clear hown3 hgrow3 own e0
  go_wp2_with fail
  go_ret2
  exact full_end (fs := [l, 0]) (by rw [nums_app]; simpa [nums] using OW3.out) (by simp) (by omega) rfl bl3.out
set_option maxRecDepth 100000 in
set_option maxHeartbeats 1000000 in
theorem full_ident (lo hi : Nat) (w : World) (q l x : Nat) (hx : x < 1073741824) (hq : Bk w q 57 #[.int .u32 0, .int .u32 (x : Int)]) (h1 : lo ≤ q) (h2 : q < hi) : Full lo hi w (.iface 52 (ptr q)) l [l, 1, 0, x] := by
  intro B va vc xs w1 hB hB1 ha hown hlen hl
  have hw64 : wrap64 (l : Int) = (l : Int) := by unfold wrap64; omega
  have hq1 := ha.bk hq h1 h2 (by decide)
  have HQ := Lib.hid hq1
  have hw3 : IntKind.i64.wrap (x : Int) = (x : Int) := IntWalk.i64_in _ (by omega)
  have hw0 : IntKind.i64.wrap 0 = 0 := IntWalk.i64_in _ (by omega)
  simp only [List.length_cons, List.length_nil] at hlen
  clear ha hq hq1 hx
  obtain ⟨n0_, hn0, kz0, kz1, kz2⟩ := info_three info_n
  have own := (hown.alloc (.cells #[.iface 52 (ptr q), .int .i32 (l : Int)] 32)).alloc (.cells #[.int .i64 (l : Int)] 2)
  go_enter Try.func7, Try.ntmps7
  go_wp2_with (at_builtin; refine wpList_append_own_at _ rfl _ _ 36 rfl B 2 n0_ (.int .i64 0) 1 8 Try.underlying36 hn0 kz0 kz1 kz2 rfl (by decide) _ _ _ rfl own ⟨w1.heap.size + 1, 0, none⟩ 1 1 [.int .i64 (l : Int)] rfl rfl ?c1 ?c2 ?c3 ?c4 ?c5 ?_)
  case c1 => intro j u hj; cases j with | zero => (simp at hj; subst hj; simp [Addr.add]) | succ j => simp at hj
  case c2 => intro u hu; simp at hu; subst hu; rfl
  case c3 => unfold maxLen; omega
  case c4 => omega
  case c5 => simp; omega
  intro v' w2 hown' hgrow _ _
  have bl : Below B w1 w2 := (((Below.refl _ _).alloc hB1 _).alloc (by simp; omega) _).grown hgrow (by simp; omega) (fun k hk => (own.lt k hk).1)
  have b1 : Bk w2 w1.heap.size 32 #[.iface 52 (ptr q), .int .i32 (l : Int)] := ((Bk.new _ _ _).alloc _).grown hgrow (own_ne own ((Bk.new _ _ _).alloc _) (by decide))
  have e0 : w2.cell? ⟨w1.heap.size, 0, none⟩ = some (.iface 52 (ptr q)) := b1.cell 0
  have ze := b1.lt
  have bq := HQ.out.below bl (by omega)
  have q0 : w2.cell? ⟨q, 0, none⟩ = some (.int .u32 0) := bq.cell 0
  have q1 : w2.cell? ⟨q, 1, none⟩ = some (.int .u32 (x : Int)) := bq.cell 1
  have zq := bq.lt
  have OW := Lib.hid hown'
  have BL := Lib.hid bl
  obtain ⟨g1, k1, rfl⟩ := own_form hown' (by omega)
  clear hown' hgrow bl own b1 bq
  have b2 : B ≤ w2.heap.size := by have := BL.out.size; omega
  go_upto_region 7 with fail
  go_region_law ((refine step_append_lies _ (by rfl) _ _ _ (by rfl) B 2 n0_ _ 1 8 Try.underlying36 hn0 kz0 kz1 kz2 rfl (by omega) (.slice (some ⟨g1, 0, none⟩) (xs.length + 1) k1) _ _ (by rfl) ((OW.out.alloc _).drew) ⟨w2.heap.size, 0, none⟩ 3 3 [.int .i64 1, .int .i64 0, .int .i64 (x : Int)] (by rfl) (by rfl) (World.news_of_block (cs := #[.int .i64 1, .int .i64 0, .int .i64 (x : Int)]) (t := 2) (fr := (0, 0)) (heap_alloc_new w2 _)) (by simp [Value.oneCell']) (by omega) (by unfold maxLen; omega) (by omega) (by simp; omega) (w2.heap.size + 1) (by simp) ?_; intro gg cap w3 hown3 hgrow3 hat hlt))
  all_goals
    have bl3 := Lib.hid (((BL.out.alloc b2 _).drew).grown hgrow3 (by simp; omega) (fun k hk => ((OW.out.alloc (.cells #[.int .i64 1, .int .i64 0, .int .i64 (x : Int)] 2)).drew.lt k hk).1))
    have OW3 := Lib.hid hown3
    clear hown3 hgrow3
    go_wp2_with fail
    go_ret2
    have e4 : nums (xs ++ [l, 1, 0, x]) = (nums xs ++ [.int .i64 (l : Int)]) ++ [.int .i64 1, .int .i64 0, .int .i64 (x : Int)] := by rw [nums_app, List.append_assoc]; rfl
    exact full_end (fs := [l, 1, 0, x]) (by rw [e4]; exact OW3.out) (by simp) (by omega) rfl bl3.out
theorem conv_missing (lo hi : Nat) (w : World) (g l : Nat) : Conv lo hi w (.iface 49 (ptr g)) l [0] := ⟨conv_missing0 lo hi w g l, serb_missing lo hi w g l, [l, 0], by simp, full_missing lo hi w g l⟩
theorem conv_ident (lo hi : Nat) (w : World) (q l x : Nat) (hx : x < 1073741824) (hq : Bk w q 57 #[.int .u32 0, .int .u32 (x : Int)]) (h1 : lo ≤ q) (h2 : q < hi) : Conv lo hi w (.iface 52 (ptr q)) l [4 * x + 1] := ⟨conv_ident0 lo hi w q l x hx hq h1 h2, serb_ident lo hi w q l x hx hq h1 h2, [l, 1, 0, x], by simp, full_ident lo hi w q l x hx hq h1 h2⟩

end Go.Proofs.Ytokkndnicpgdkaa
