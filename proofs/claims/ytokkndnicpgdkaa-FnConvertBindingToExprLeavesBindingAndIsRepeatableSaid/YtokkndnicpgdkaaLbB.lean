/-
  The serialiser and the conversion on nodes without children; no statement of its own.
-/
import Derived.Test.YtokkndnicpgdkaaRows
import Derived.WalkKit
import Derived.ProofKit
import Derived.OpenShut
import Derived.Test.YtokkndnicpgdkaaSlW
import Derived.Test.YtokkndnicpgdkaaLbA
import Derived.Test.YtokkndnicpgdkaaLbR
import Derived.Test.YtokkndnicpgdkaaLbE
import Derived.Test.YtokkndnicpgdkaaCbW
import Derived.WalkLawsBesides
import Derived.WalkSpells
import Derived.Below
import Derived.Lib.Hide
import Derived.Outline
import Derived.OwnWalk
import Derived.Laws.OwnMore
import Derived.Maps.AppendAt
import Derived.RegionTactic
import Derived.Deep.QuietTactic
import Derived.BigQuiet
import Derived.Deep.RegionHeld3
import Derived.Deep.Cut
import Derived.Deep.DeepCutAuto
namespace Go.Proofs.Ytokkndnicpgdkaa
open Go.ChangeShapes Go.WideShapes Go.ChangeAt Go.RowKit

set_option linter.unusedVariables false

theorem nil_func : ∀ w, (binOp .neq 82 .nilFunc .nilFunc).run Try.prog w = .ok (.bool false) w := fun _ => by kernel_rfl
theorem ser_end {B n : Nat} {w1 w2 : World} {xs ws : List Nat} {v : Value} {e : Ending} (hown : w2.ownsRow B 48 1 v n (words (xs ++ ws))) (hn : n = (xs ++ ws).length) (h0 : 0 < n) (he : e = .returned (.tuple #[v, .bool true])) (hb : Below B w1 w2) : ∃ a k, e = .returned (.tuple #[.slice a (xs ++ ws).length k, .bool true]) ∧ w2.ownsRow B 48 1 (.slice a (xs ++ ws).length k) (xs ++ ws).length (words (xs ++ ws)) ∧ Below B w1 w2 := by
  obtain ⟨g, k, rfl⟩ := own_form hown h0
  subst hn
  exact ⟨_, _, he, hown, hb⟩
set_option maxRecDepth 100000 in
set_option maxHeartbeats 1000000 in
theorem ser_missing0 (lo0 hi0 lo hi : Nat) (w : World) (g l : Nat) : Ser0 lo0 hi0 lo hi w (.iface 83 (ptr g)) l [0] := by
  intro B va vc xs w1 _ hB hB1 ha hown hl hlen
  subst hl
  simp only [List.length_singleton] at hlen
  obtain ⟨i0, hi0, hz0, hz1, hz2⟩ := info_three info_w
  have own := (hown.alloc (.cells #[.iface 83 (ptr g), .int .i32 (xs.length : Int)] 42)).alloc (.cells #[.int .u32 0] 48)
  clear ha
  go_enter Try.func9, Try.ntmps9
  go_wp2_with (at_builtin; refine wpList_append_own_at _ rfl _ _ 22 rfl B 48 i0 (.int .u32 0) 1 4 Try.underlying22 hi0 hz0 hz1 hz2 rfl (by decide) _ _ _ rfl own ⟨w1.heap.size + 1, 0, none⟩ 1 1 [.int .u32 0] rfl rfl ?c1 ?c2 ?c3 ?c4 ?c5 ?_)
  case c1 => intro j u hj; cases j with | zero => (simp at hj; subst hj; simp [Addr.add]) | succ j => simp at hj
  case c2 => intro u hu; simp at hu; subst hu; rfl
  case c3 => unfold maxLen; omega
  case c4 => omega
  case c5 => simp; omega
  intro v' w2 hown' hgrow _ _
  have bl : Below B w1 w2 := (((Below.refl _ _).alloc hB1 _).alloc (by simp; omega) _).grown hgrow (by simp; omega) (fun k hk => (own.lt k hk).1)
  have OW := Lib.hid hown'
  have BL := Lib.hid bl
  obtain ⟨g1, k1, rfl⟩ := own_form hown' (by omega)
  clear hown' hgrow bl own
  go_wp2_with fail
  go_ret2
  exact ser_end (by rw [words_app]; exact OW.out) (by simp) (by omega) rfl BL.out
set_option maxRecDepth 100000 in
set_option maxHeartbeats 1000000 in
theorem ser_ident0 (lo0 hi0 lo hi : Nat) (w : World) (q l x : Nat) (hx : x < 1073741824) (hq : Bk w q 87 #[.int .u32 0, .int .u32 (x : Int), .bool false, .bool false, .bool false]) (h1 : lo ≤ q) (h2 : q < hi) : Ser0 lo0 hi0 lo hi w (.iface 85 (ptr q)) l [4 * x + 1] := by
  intro B va vc xs w1 _ hB hB1 ha hown hl hlen
  subst hl
  have hq1 := ha.bk hq h1 h2 (by decide)
  have q0 : w1.cell? ⟨q, 0, none⟩ = some (.int .u32 0) := hq1.cell 0
  have q1 : w1.cell? ⟨q, 1, none⟩ = some (.int .u32 (x : Int)) := hq1.cell 1
  have q2 : w1.cell? ⟨q, 2, none⟩ = some (.bool false) := hq1.cell 2
  have q3 : w1.cell? ⟨q, 3, none⟩ = some (.bool false) := hq1.cell 3
  have q4 : w1.cell? ⟨q, 4, none⟩ = some (.bool false) := hq1.cell 4
  have zq := hq1.lt
  simp only [List.length_singleton] at hlen
  obtain ⟨i0, hi0, hz0, hz1, hz2⟩ := info_three info_w
  have HX := Lib.hid hx
  have HLEN := Lib.hid hlen
  obtain ⟨y, hy⟩ : ∃ y, y = 4 * x + 1 := ⟨_, rfl⟩
  have hw : bits .or .u32 1 ((x : Int) * 4 % 4294967296) = (y : Int) := by
    have h := or_low 1 x 2 (by omega) (by omega) (by omega)
    rw [show (x : Int) * 4 % 4294967296 = ((2 ^ 2 * x : Nat) : Int) by omega, show (1 : Int) = ((1 : Nat) : Int) from rfl, h]; omega
  rw [← hy]
  have own := (hown.alloc (.cells #[.iface 85 (ptr q), .int .i32 (xs.length : Int)] 42)).alloc (.cells #[.int .u32 (y : Int)] 48)
  have hge : decide ((1073741824 : Int) ≤ (x : Int)) = false := by simp; omega
  have hw32 : wrap32 (xs.length : Int) = (xs.length : Int) := by unfold wrap32; omega
  clear ha hq hq1 hx hlen hy
  go_enter Try.func9, Try.ntmps9
  go_wp2_with (at_builtin; refine wpList_append_own_at _ rfl _ _ 22 rfl B 48 i0 (.int .u32 0) 1 4 Try.underlying22 hi0 hz0 hz1 hz2 rfl (by decide) _ _ _ rfl own ⟨w1.heap.size + 1, 0, none⟩ 1 1 [.int .u32 (y : Int)] rfl rfl ?c1 ?c2 ?c3 ?c4 ?c5 ?_)
  case c1 => intro j u hj; cases j with | zero => (simp at hj; subst hj; simp [Addr.add]) | succ j => simp at hj
  case c2 => intro u hu; simp at hu; subst hu; rfl
  case c3 => have := HLEN.out; unfold maxLen; omega
  case c4 => have := HLEN.out; omega
  case c5 => simp; omega
  intro v' w2 hown' hgrow _ _
  have bl : Below B w1 w2 := (((Below.refl _ _).alloc hB1 _).alloc (by simp; omega) _).grown hgrow (by simp; omega) (fun k hk => (own.lt k hk).1)
  have OW := Lib.hid hown'
  have BL := Lib.hid bl
  obtain ⟨g1, k1, rfl⟩ := own_form hown' (by omega)
  clear hown' hgrow bl own
  go_wp2_with fail
  go_ret2
  exact ser_end (by rw [words_app]; exact OW.out) (by simp) (by omega) rfl BL.out
/-- A missing expression, and how it looks. -/
theorem ser_missing (lo0 hi0 lo hi : Nat) (w : World) (g l : Nat) : Ser lo0 hi0 lo hi w (.iface 83 (ptr g)) l [0] := ⟨ser_missing0 lo0 hi0 lo hi w g l, .missing⟩
theorem ser_ident (lo0 hi0 lo hi : Nat) (w : World) (q l x : Nat) (hx : x < 1073741824) (hq : Bk w q 87 #[.int .u32 0, .int .u32 (x : Int), .bool false, .bool false, .bool false]) (h1 : lo ≤ q) (h2 : q < hi) : Ser lo0 hi0 lo hi w (.iface 85 (ptr q)) l [4 * x + 1] := ⟨ser_ident0 lo0 hi0 lo hi w q l x hx hq h1 h2, .ident h1 h2 hq⟩
set_option maxRecDepth 100000 in
set_option maxHeartbeats 1000000 in
theorem conv_missing0 (lo hi : Nat) (w : World) (g l : Nat) : Conv0 lo hi w (.iface 49 (ptr g)) l [0] := by
  intro w1 ha hw
  clear ha
  go_enter Try.func8, Try.ntmps8
  go_wp2_with fail
  refine bodyPost_ret (v := .agg #[.iface 83 (ptr (w1.heap.size + 1 + 1 + 1)), .int .i32 (l : Int)]) (by simp [results, Try.results8, go_sem]) rfl ⟨_, _, rfl, ?_, by decide, ser_missing _ _ _ _ _ _ _⟩
  repeat (with_reducible first | exact Below.refl _ _ | refine Below.alloc ?_ (by first | (simp; done) | (simp <;> omega) | omega) _ | refine Below.setCell ?_ (by first | (simp; done) | (simp <;> omega) | omega) _)
set_option maxRecDepth 100000 in
set_option maxHeartbeats 1000000 in
theorem conv_ident0 (lo hi : Nat) (w : World) (q l x : Nat) (hx : x < 1073741824) (hq : Bk w q 57 #[.int .u32 0, .int .u32 (x : Int)]) (h1 : lo ≤ q) (h2 : q < hi) : Conv0 lo hi w (.iface 52 (ptr q)) l [4 * x + 1] := by
  intro w1 ha hw
  have hq1 := ha.bk hq h1 h2 (by decide)
  have q0 : w1.cell? ⟨q, 0, none⟩ = some (.int .u32 0) := hq1.cell 0
  have q1 : w1.cell? ⟨q, 1, none⟩ = some (.int .u32 (x : Int)) := hq1.cell 1
  have zq := hq1.lt
  have hnf := nil_func
  have HQ := Lib.hid hq1
  have HX := Lib.hid hx
  clear ha hq hq1 hx
  go_enter Try.func8, Try.ntmps8
  go_wp2_with fail
  obtain ⟨w3, hw3⟩ : ∃ w3, w3 = ((w1.alloc (.cells #[.iface 52 (ptr q), .int .i32 (l : Int)] 32)).alloc (.cells #[.nilIface, .int .i32 0] 42)).alloc (.cells #[.int .i32 (l : Int)] 30) := ⟨_, rfl⟩
  rw [← hw3]
  have z3 : w3.heap.size = w1.heap.size + 1 + 1 + 1 := by rw [hw3]; simp
  have bR : Bk w3 (w1.heap.size + 1) 42 #[.nilIface, .int .i32 0] := by rw [hw3]; exact (Bk.new' _ _ _ _ (by simp)).alloc _
  have bL : Bk w3 (w1.heap.size + 1 + 1) 30 #[.int .i32 (l : Int)] := by rw [hw3]; exact Bk.new' _ _ _ _ (by simp)
  have bQ : Bk w3 q 57 #[.int .u32 0, .int .u32 (x : Int)] := by rw [hw3]; exact ((HQ.out.alloc _).alloc _).alloc _
  have c0 : w3.cell? ⟨q, 0, none⟩ = some (.int .u32 0) := bQ.cell 0
  have c1 : w3.cell? ⟨q, 1, none⟩ = some (.int .u32 (x : Int)) := bQ.cell 1
  have B3 : Hid (Below w1.heap.size w1 w3) := by rw [hw3]; exact Lib.hid ((((Below.refl _ _).alloc (Nat.le_refl _) _).alloc (by simp) _).alloc (by simp <;> omega) _)
  have l0 : w3.cell? ⟨w1.heap.size + 1 + 1, 0, none⟩ = some (.int .i32 (l : Int)) := bL.cell 0
  have r0 : w3.cell? ⟨w1.heap.size + 1, 0, none⟩ = some .nilIface := bR.cell 0
  have r1 : w3.cell? ⟨w1.heap.size + 1, 1, none⟩ = some (.int .i32 0) := bR.cell 1
  have fr := bR.frozen
  have zr := bR.lt
  have zl := bL.lt
  have zq3 : q < w3.heap.size := by omega
  have KP := Lib.hid (show ∀ w', Kp (w1.heap.size + 1) w3 w' → w'.cell? ⟨w1.heap.size + 1 + 1, 0, none⟩ = some (.int .i32 (l : Int)) ∧ w'.cell? ⟨q, 0, none⟩ = some (.int .u32 0) ∧ w'.cell? ⟨q, 1, none⟩ = some (.int .u32 (x : Int)) from fun w' h => ⟨h.cell (by omega) l0, h.cell (by omega) c0, h.cell (by omega) c1⟩)
  have Z3 := Lib.hid z3
  clear hw3 bR bL bQ q0 q1 z3
  go_region_held3 (fun w' => w'.cell? ⟨w1.heap.size + 1 + 1, 0, none⟩ = some (.int .i32 (l : Int)) ∧ w'.cell? ⟨q, 0, none⟩ = some (.int .u32 0) ∧ w'.cell? ⟨q, 1, none⟩ = some (.int .u32 (x : Int))) ((refine KP.out _ ?_; (repeat (first | exact Kp.refl _ _ | refine Kp.drew ?_ | refine Kp.alloc ?_ _ | refine Kp.set ?_ _ _)))) (fail)
  go_wp2_with fail
  refine bodyPost_ret (v := .agg #[.iface 85 (ptr w3.heap.size), .int .i32 (l : Int)]) (by simp [results, Try.results8, go_sem, *]) rfl ⟨_, _, rfl, ?_, by decide, ser_ident _ _ _ _ _ _ _ x HX.out ?_ ?_ ?_⟩
  · repeat (with_reducible first | exact B3.out | refine Below.drew ?_ | refine Below.alloc ?_ (by first | (simp; done) | (simp <;> omega) | omega) _ | refine Below.setCell ?_ (by first | (simp; done) | (simp <;> omega) | omega) _)
  · repeat (with_reducible first | exact Bk.new' _ _ _ _ (by simp) | refine Bk.drew ?_ | refine Bk.alloc ?_ _ | refine Bk.set ?_ (by omega))
  · have := Z3.out; omega
  · simp

end Go.Proofs.Ytokkndnicpgdkaa
