/-
  simplifyUnusedStringAdditionChain on a chain of any length; no statement of its own.
-/
import Derived.Test.YtbmmmgccmkompadRows
import Derived.WalkKit
import Derived.ProofKit
import Derived.OpenShut
import Derived.Test.YtbmmmgccmkompadSlW
import Derived.Test.YtbmmmgccmkompadScA
import Derived.Test.YtbmmmgccmkompadScB
import Derived.WalkLawsBesides
import Derived.WalkSpells
import Derived.Below
import Derived.Lib.Hide
import Derived.Outline
namespace Go.Proofs.Ytbmmmgccmkompad
open Go.ChangeShapes Go.WideShapes Go.ChangeAt Go.RowKit

set_option linter.unusedVariables false

set_option maxRecDepth 100000 in
set_option maxHeartbeats 1000000 in
theorem leaf_str (w : World) (q : Nat) (ln : Int) : Calls Try.prog 8 #[.agg #[.iface 46 (ptr q), .int .i32 ln]] w (Yes (fun d l w' => ∃ g A c a b e f, d = .iface 46 (ptr g) ∧ l = ln ∧ w.heap.size ≤ g ∧ Bk w' g 50 #[.slice A 0 c, a, b, e, f]) w) := by
  go_enter Try.func8, Try.ntmps8
  go_wp2_with fail
  refine bodyPost_ret (v := .tuple #[.agg #[.iface 46 (ptr (w.heap.size + 1 + 1)), .int .i32 ln], .bool true]) (by simp [results, Try.results8, go_sem]) rfl ⟨_, w.heap.size + 1 + 1, ln, _, _, rfl, by omega, Bk.new' _ _ _ _ (by simp), .inr (.inl rfl), ⟨w.heap.size + 1 + 1, _, _, _, _, _, _, rfl, rfl, by omega, Bk.new' _ _ _ _ (by simp)⟩, ?_⟩
  repeat (first | exact Below.refl _ _ | refine Below.setCell ?_ (by first | (simp; done) | (simp <;> omega)) _ | refine Below.alloc ?_ (by first | omega | (simp <;> omega)) _)
set_option maxRecDepth 100000 in
set_option maxHeartbeats 1000000 in
theorem leaf_id (w : World) (q : Nat) (ln : Int) : Calls Try.prog 8 #[.agg #[.iface 44 (ptr q), .int .i32 ln]] w (Same w (.tuple #[.agg #[.iface 44 (ptr q), .int .i32 ln], .bool false])) := by
  go_enter Try.func8, Try.ntmps8
  go_wp2_with fail
  refine bodyPost_ret (v := .tuple #[.agg #[.iface 44 (ptr q), .int .i32 ln], .bool false]) (by simp [results, Try.results8, go_sem]) rfl ⟨rfl, ?_⟩
  repeat (first | exact Below.refl _ _ | refine Below.setCell ?_ (by first | (simp; done) | (simp <;> omega)) _ | refine Below.alloc ?_ (by first | omega | (simp <;> omega)) _)
/-- What the function answers for node m of a chain. -/
def Res (ls : Bool) (rs : List Int) (D : Nat → Value) (Q : Nat → Nat) (m : Nat) (w : World) (e : Ending) (w' : World) : Prop := Below w.heap.size w w' ∧
  ((st ls rs m = false ∧ e = .returned (.tuple #[.agg #[D m, .int .i32 (loc m)], .bool false])) ∨ (st ls rs m = true ∧ ∃ d l, e = .returned (.tuple #[.agg #[d, .int .i32 l], .bool true]) ∧ Ch w' w.heap.size ls rs D Q m d l))
theorem Tree.bin {w : World} {ls : Bool} {rs : List Int} {D : Nat → Value} {G Q : Nat → Nat} {m : Nat} (h : Tree w ls rs D G Q (m + 1)) : ∃ T g t cs, D m = .iface T (ptr g) ∧ Bk w g t cs ∧ okT T := by
  obtain ⟨T, g, t, cs, h1, h2, h3⟩ := (h.less (Nat.le_succ m)).shape
  exact ⟨T, g, t, cs, h1, h2, h3⟩
theorem st_no {ls : Bool} {rs : List Int} {m : Nat} (h : st ls rs m = false) (h0 : ¬ 0 < rs.getD m 0) : st ls rs (m + 1) = false := by rw [st, h, decide_eq_false h0]; rfl
theorem st_new {ls : Bool} {rs : List Int} {m : Nat} (h : st ls rs m = false) (h0 : 0 < rs.getD m 0) : st ls rs (m + 1) = true := by rw [st, h, decide_eq_true h0]; rfl
theorem st_yes {ls : Bool} {rs : List Int} {m : Nat} (h : st ls rs m = true) : st ls rs (m + 1) = true := by rw [st, h]; rfl
theorem chain_any (ls : Bool) (rs : List Int) (D : Nat → Value) (G Q : Nat → Nat) : ∀ (m : Nat) (w : World), Tree w ls rs D G Q m →
    Calls Try.prog 8 #[.agg #[D m, .int .i32 (loc m)]] w (Res ls rs D Q m w) := by
  intro m
  induction m with
  | zero =>
    intro w h
    rcases h.z with ⟨h1, h2, cs, h3⟩ | ⟨h1, h2, A, n, c, a, b, e, f, h3, h4⟩
    · have hl : ls = false := by cases ls <;> simp_all
      rw [h2]
      exact (leaf_id w (Q 0) (loc 0)).mono fun e w' ⟨he, hb⟩ => ⟨hb, .inl ⟨hl, by rw [he, h2]⟩⟩
    · have hl : ls = true := by cases ls <;> simp_all
      rw [h2]
      exact (leaf_str w (Q 0) (loc 0)).mono fun e w' ⟨T, g, l, t, cs, he, hg, hbk, hT, ⟨g', A, c, a, b, e', f, hd, hl', hg', hbk'⟩, hb⟩ => ⟨hb, .inr ⟨hl, _, _, he, g', A, c, a, b, e', f, hd, hl', hg', hbk'⟩⟩
  | succ m ih =>
    intro w h
    obtain ⟨T, g, tg, csg, hd, hbg, hT⟩ := h.bin
    obtain ⟨h1, dr, h2, h3⟩ := h.s m (by omega)
    have hm : Tree w ls rs D G Q m := h.less (Nat.le_succ m)
    have K0 : ∀ w1, Below w.heap.size w w1 → Calls Try.prog 8 #[.agg #[.iface T (ptr g), .int .i32 (loc m)]] w1 (Res ls rs D Q m w1) := fun w1 hb => by
      have := ih w1 (hm.later hb)
      rwa [hd] at this
    rw [hd] at h3
    rw [h1]
    have hl : loc (m + 1) = 2 * ((m : Int) + 1) + 1 := loc_succ m
    cases hst : st ls rs m with
    | false =>
      have K : LeftNo w T g (loc m) := fun w1 hb => (K0 w1 hb).mono fun e w' ⟨hb', h⟩ => by
        rcases h with ⟨_, he⟩ | ⟨hc, _⟩
        · rw [hd] at he; exact ⟨he, hb'⟩
        · rw [hst] at hc; cases hc
      rcases h2 with ⟨g1, g2, cs, g3⟩ | ⟨g1, g2, A, n, c, a, b, e, f, g3, g4⟩
      · subst g2
        exact (no_ident w _ g _ T _ _ _ hT h3 K).mono fun e w' ⟨he, hb⟩ => ⟨hb, .inl ⟨st_no hst (by omega), by rw [he, h1]⟩⟩
      · subst g2
        rcases g3 with ⟨g3, rfl⟩ | ⟨g3, rfl⟩
        · exact (no_str w _ g _ T _ _ _ A c a b e f hT h3 g4 K).mono fun e w' ⟨he, hb⟩ => ⟨hb, .inl ⟨st_no hst (by omega), by rw [he, h1]⟩⟩
        · exact (no_strY w _ g _ T _ _ _ A c a b e f hT h3 g4 K).mono fun e w' ⟨g', h', A', c', a', b', e', f', he, hg', hb1, hb2, hb⟩ =>
            ⟨hb, .inr ⟨st_new hst (by omega), _, _, he, .inr (.inr ⟨hst, by omega, g', h', A', c', a', b', e', f', rfl, rfl, hg', by rw [hd]; exact hb1, hb2⟩)⟩⟩
    | true =>
      have hS : ∀ B, Stable fun d l w' => Ch w' B ls rs D Q m d l := fun B d l w w' hk h => h.move (Nat.le_refl _) hk
      have K : LeftYes w T g (loc m) (fun d l w' => Ch w' w.heap.size ls rs D Q m d l) := fun w1 hb => (K0 w1 hb).mono fun e w' ⟨hb', h⟩ => by
        rcases h with ⟨hc, _⟩ | ⟨_, d, l, he, hch⟩
        · rw [hst] at hc; cases hc
        · obtain ⟨T', g', t', cs', hd', hg', hbk, hT'⟩ := hch.shape
          subst hd'
          exact ⟨T', g', l, t', cs', he, hg', hbk, hT', hch.move hb.size (fun _ _ _ _ h => h), hb'⟩
      rcases h2 with ⟨g1, g2, cs, g3⟩ | ⟨g1, g2, A, n, c, a, b, e, f, g3, g4⟩
      · subst g2
        exact (yes_ident w _ g _ T _ _ _ tg csg hbg _ (hS _) hT h3 K).mono fun e w' ⟨g', dl, ll, he, hg', hb1, hP, hb⟩ =>
          ⟨hb, .inr ⟨st_yes hst, _, _, he, .inl ⟨hst, g1, g', dl, ll, rfl, rfl, hg', hb1, hP⟩⟩⟩
      · subst g2
        exact (yes_str w _ g _ T _ _ _ _ (hS _) hT h3 K).mono fun e w' ⟨T', g', l', t', cs', he, hg', hbk, hT', hP, hb⟩ =>
          ⟨hb, .inr ⟨st_yes hst, _, _, he, .inr (.inl ⟨hst, g1, hP⟩)⟩⟩

end Go.Proofs.Ytbmmmgccmkompad
