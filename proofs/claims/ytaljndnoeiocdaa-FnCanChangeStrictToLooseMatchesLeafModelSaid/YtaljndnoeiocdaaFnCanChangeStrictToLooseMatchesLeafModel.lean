/-
  For every six inputs the law FnCanChangeStrictToLooseMatchesLeafModel returns true and leaves its arguments as they were; no condition.
  The frame of this text was written by the kit's program proof-skeleton.mjs for this statement; the walk and its lemmas are the prover's.
-/
import Derived.Test.YtaljndnoeiocdaaRows
import Derived.WalkKit
import Derived.ProofKit
import Derived.OpenShut
import Derived.Test.YtaljndnoeiocdaaLeafA
import Derived.Deep.QuietTactic
import Derived.BigQuiet
import Derived.ShutString
import Derived.ChangeOld
import Derived.Below
import Derived.WalkLawsBesides
import Derived.Deep.Slices
namespace Go.Proofs.Ytaljndnoeiocdaa.fnCanChangeStrictToLooseMatchesLeafModel
open Go.ChangeShapes Go.WideShapes Go.ChangeAt Go.RowKit
open Go.ChangeMaps (open_string shut_string)
open Go.Deep (open_slice1)
set_option linter.unusedVariables false

theorem own : ownKnob Try.prog.godebug = none := by kernel_rfl
theorem laidOut : laidOutB Try.prog = true := by kernel_rfl

def merge (x y : Int) : Int := if x = 0 then 0 else if y = 0 then 0 else if x = y then x else 1
def Prim (p : Int) (w : World) (e : Ending) (w' : World) : Prop := e = .returned (.int .u8 p) ∧ Below w.heap.size w w'
theorem merged_any (w : World) (d1 d2 : Value) (l1 l2 p1 p2 : Int) (k1 : Knows w d1 p1) (k2 : Knows w d2 p2) :
    Calls Try.prog 18 #[.agg #[d1, .int .i32 l1], .agg #[d2, .int .i32 l2]] w (Prim (merge p1 p2) w) := by
  have K1 := Lib.hid k1
  have K2 := Lib.hid k2
  clear k1 k2
  have M := Lib.hid (show merge p1 p2 = if p1 = 0 then 0 else if p2 = 0 then 0 else if p1 = p2 then p1 else 1 from rfl)
  cases t1 : (p1 == 0)
  · cases t2 : (p2 == 0)
    · cases t3 : (p1 == p2)
      all_goals
        go_enter Try.func18, Try.ntmps18
        go_wp2_with fail
        refine (K1.out _ (((Below.refl _ _).alloc (Nat.le_refl _) _).alloc (by simp) _)).mono ?_
        rintro e w1 ⟨rfl, hb⟩
        obtain ⟨hc, hf⟩ := bcell hb
        have hz : w.heap.size + 1 < w1.heap.size := by have := hb.size; simp at this; omega
        go_wp2_with fail
        refine (K2.out _ ((((Below.refl _ _).alloc (Nat.le_refl _) _).alloc (by simp) _).trans (hb.mono (by simp <;> omega)))).mono ?_
        rintro e w2 ⟨rfl, hb2⟩
        go_wp2_with fail
        go_ret
        refine ⟨ret_int ?_, ((((Below.refl _ _).alloc (Nat.le_refl _) _).alloc (by simp) _).trans (hb.mono (by simp <;> omega))).trans (hb2.mono (by omega))⟩
        rw [M.out]; simp at t1 t2 t3; simp [t1, t2, t3]
    · go_enter Try.func18, Try.ntmps18
      go_wp2_with fail
      refine (K1.out _ (((Below.refl _ _).alloc (Nat.le_refl _) _).alloc (by simp) _)).mono ?_
      rintro e w1 ⟨rfl, hb⟩
      obtain ⟨hc, hf⟩ := bcell hb
      have hz : w.heap.size + 1 < w1.heap.size := by have := hb.size; simp at this; omega
      go_wp2_with fail
      refine (K2.out _ ((((Below.refl _ _).alloc (Nat.le_refl _) _).alloc (by simp) _).trans (hb.mono (by simp <;> omega)))).mono ?_
      rintro e w2 ⟨rfl, hb2⟩
      go_wp2_with fail
      go_ret
      refine ⟨ret_int ?_, ((((Below.refl _ _).alloc (Nat.le_refl _) _).alloc (by simp) _).trans (hb.mono (by simp <;> omega))).trans (hb2.mono (by omega))⟩
      rw [M.out]; simp at t1 t2; simp [t1, t2]
  · go_enter Try.func18, Try.ntmps18
    go_wp2_with fail
    refine (K1.out _ (((Below.refl _ _).alloc (Nat.le_refl _) _).alloc (by simp) _)).mono ?_
    rintro e w1 ⟨rfl, hb⟩
    go_wp2_with fail
    go_ret
    refine ⟨ret_int ?_, (((Below.refl _ _).alloc (Nat.le_refl _) _).alloc (by simp) _).trans (hb.mono (by simp <;> omega))⟩
    rw [M.out]; simp at t1; simp [t1]
set_option maxRecDepth 100000 in
theorem if_any (w : World) (b : Nat) (d1 d2 : Value) (l1 l2 p1 p2 : Int) (h2 : w.cell? ⟨b, 2, none⟩ = some d1) (h3 : w.cell? ⟨b, 3, none⟩ = some (.int .i32 l1)) (h4 : w.cell? ⟨b, 4, none⟩ = some d2) (h5 : w.cell? ⟨b, 5, none⟩ = some (.int .i32 l2)) (k1 : Knows w d1 p1) (k2 : Knows w d2 p2) :
    Calls Try.prog 16 #[.iface 55 (.pointer (some ⟨b, 0, none⟩))] w (Prim (merge p1 p2) w) := by
  have K1 := Lib.hid k1
  have K2 := Lib.hid k2
  clear k1 k2
  go_enter Try.func16, Try.ntmps16
  go_wp2_with fail
  go_still_tail 8, (by kernel_rfl)
  change wpList _ _ _ _ _ w.drew
  have hb0 : Below w.heap.size w w.drew := (Below.refl _ _).drew
  go_wp2_with fail
  refine (merged_any w.drew d1 d2 l1 l2 p1 p2 (K1.out.later hb0) (K2.out.later hb0)).mono ?_
  rintro e w2 ⟨rfl, hb2⟩
  go_wp2_with fail
  go_ret
  exact ⟨rfl, hb0.trans hb2⟩
theorem knows_if (w : World) (b : Nat) (d1 d2 : Value) (l1 l2 p1 p2 : Int) (hb : b < w.heap.size) (h2 : w.cell? ⟨b, 2, none⟩ = some d1) (h3 : w.cell? ⟨b, 3, none⟩ = some (.int .i32 l1)) (h4 : w.cell? ⟨b, 4, none⟩ = some d2) (h5 : w.cell? ⟨b, 5, none⟩ = some (.int .i32 l2)) (k1 : Knows w d1 p1) (k2 : Knows w d2 p2) :
    Knows w (.iface 55 (.pointer (some ⟨b, 0, none⟩))) (merge p1 p2) := fun w1 hw => by
  have hc := (bcell hw).1
  exact if_any w1 b d1 d2 l1 l2 p1 p2 (by rw [hc _ _ hb]; exact h2) (by rw [hc _ _ hb]; exact h3) (by rw [hc _ _ hb]; exact h4) (by rw [hc _ _ hb]; exact h5) (k1.later hw) (k2.later hw)
def code (c : Bool) (y n : Int) : Int := if c then merge (prim y) (prim n) else prim y
def Built (c : Bool) (y n : Int) (w : World) (e : Ending) (w' : World) : Prop := ∃ d, e = .returned (.agg #[d, .int .i32 0]) ∧ Knows w' d (code c y n) ∧ Below w.heap.size w w'
theorem build_no (y n : Int) (hy : 0 ≤ y) (w : World) : Calls Try.prog 8 #[.bool false, .int .u8 y, .int .u8 n] w (Built false y n w) := by
  go_enter Try.func8, Try.ntmps8
  go_wp2_with fail
  refine (leaf_any y hy _).mono ?_
  rintro e w1 ⟨v, rfl, hb⟩
  obtain ⟨hc, hf⟩ := bcell hb
  have hz : w.heap.size < w1.heap.size := by have := hb.size; simp at this; omega
  have c0 : w1.cell? ⟨w.heap.size, 0, none⟩ = some .nilIface := by rw [hc _ _ (by simp)]; simp
  have c1 : w1.cell? ⟨w.heap.size, 1, none⟩ = some (.int .i32 0) := by rw [hc _ _ (by simp)]; simp
  clear hc
  go_wp2_with fail
  have hb3 := (((Below.refl _ _).alloc (Nat.le_refl _) _).trans (hb.mono (by simp)))
  refine bodyPost_ret (v := .agg #[.iface (ty y) v, .int .i32 0]) (by simp [results, Try.results8, go_sem, c0, c1]) rfl ⟨_, rfl, knows_leaf y hy v _, ?_⟩
  exact ((hb3.setCell (by simp) _).setCell (by simp) _)
theorem build_yes (y n : Int) (hy : 0 ≤ y) (hn : 0 ≤ n) (w : World) : Calls Try.prog 8 #[.bool true, .int .u8 y, .int .u8 n] w (Built true y n w) := by
  go_enter Try.func8, Try.ntmps8
  go_wp2_with fail
  refine (leaf_any 6 (by omega) _).mono ?_
  rintro e w1 ⟨v1, rfl, hb1⟩
  have hz1 : w.heap.size < w1.heap.size := by have := hb1.size; simp at this; omega
  go_wp2_with fail
  refine (leaf_any y hy _).mono ?_
  rintro e w2 ⟨v2, rfl, hb2⟩
  have hz2 : w1.heap.size ≤ w2.heap.size := hb2.size
  go_wp2_with fail
  refine (leaf_any n hn _).mono ?_
  rintro e w3 ⟨v3, rfl, hb3⟩
  have hz3 : w2.heap.size ≤ w3.heap.size := hb3.size
  have hb := (((Below.refl w.heap.size w).alloc (Nat.le_refl _) (Obj.cells #[Value.nilIface, Value.int IntKind.i32 0] 29)).trans (hb1.mono (by simp))).trans ((hb2.mono (by omega)).trans (hb3.mono (by omega)))
  have hcc := hb1.trans ((hb2.mono (by simp; omega)).trans (hb3.mono (by simp; omega)))
  obtain ⟨hc, hf⟩ := bcell hcc
  have c0 : w3.cell? ⟨w.heap.size, 0, none⟩ = some .nilIface := by rw [hc _ _ (by simp)]; simp
  have c1 : w3.cell? ⟨w.heap.size, 1, none⟩ = some (.int .i32 0) := by rw [hc _ _ (by simp)]; simp
  have f0 : w3.frozen? ⟨w.heap.size, 0, none⟩ = false := by rw [hf _ _ (by simp)]; simp
  have f1 : w3.frozen? ⟨w.heap.size, 1, none⟩ = false := by rw [hf _ _ (by simp)]; simp
  have hz : w.heap.size < w3.heap.size := by omega
  clear hc hf
  go_wp2_with fail
  refine bodyPost_ret (v := .agg #[.iface 55 (.pointer (some ⟨w3.heap.size, 0, none⟩)), .int .i32 0]) (by simp [results, Try.results8, go_sem, c0, c1, hz]) rfl ⟨_, rfl, ?_, ?_⟩
  · exact knows_if _ w3.heap.size (.iface (ty y) v2) (.iface (ty n) v3) 0 0 (prim y) (prim n) (by simp) (by simp [go_sem]) (by simp [go_sem]) (by simp [go_sem]) (by simp [go_sem]) (knows_leaf y hy v2 _) (knows_leaf n hn v3 _)
  · exact ((hb.setCell (by simp) _).setCell (by simp) _).alloc (by simp; omega) _
theorem build_any (c : Bool) (y n : Int) (hy : 0 ≤ y) (hn : 0 ≤ n) (w : World) : Calls Try.prog 8 #[.bool c, .int .u8 y, .int .u8 n] w (Built c y n w) := by
  cases c
  · exact build_no y n hy w
  · exact build_yes y n hy hn w
def canB (x y : Int) : Bool := x == y && x != 0 && x != 1
theorem can_any (w : World) (d1 d2 : Value) (l1 l2 p1 p2 : Int) (k1 : Knows w d1 p1) (k2 : Knows w d2 p2) :
    Calls Try.prog 7 #[.agg #[d1, .int .i32 l1], .agg #[d2, .int .i32 l2]] w fun e w' => e = .returned (.bool (canB p1 p2)) ∧ Below w.heap.size w w' := by
  have K1 := Lib.hid k1
  have K2 := Lib.hid k2
  have M := Lib.hid (show canB p1 p2 = (p1 == p2 && p1 != 0 && p1 != 1) from rfl)
  clear k1 k2
  cases t1 : (p1 == p2) <;> cases t2 : (p1 != 0) <;> cases t3 : (p1 != 1)
  all_goals
    rw [t1, t2, t3] at M
    go_enter Try.func7, Try.ntmps7
    go_wp2_with fail
    refine (K1.out _ (((Below.refl _ _).alloc (Nat.le_refl _) _).alloc (by simp) _)).mono ?_
    rintro e w1 ⟨rfl, hb⟩
    obtain ⟨hc, hf⟩ := bcell hb
    have hz : w.heap.size + 1 < w1.heap.size := by have := hb.size; simp at this; omega
    go_wp2_with fail
    refine (K2.out _ ((((Below.refl _ _).alloc (Nat.le_refl _) _).alloc (by simp) _).trans (hb.mono (by simp <;> omega)))).mono ?_
    rintro e w2 ⟨rfl, hb2⟩
    go_wp2_with fail
    go_ret
    refine ⟨?_, ((((Below.refl _ _).alloc (Nat.le_refl _) _).alloc (by simp) _).trans (hb.mono (by simp <;> omega))).trans (hb2.mono (by omega))⟩
    rw [M.out]; rfl
def eff (k : Int) : Int := if k ≤ 5 then k else -1
def effOf (c : Bool) (y n : Int) : Int := if c then (if 0 ≤ eff y ∧ eff y = eff n then eff y else -1) else eff y
theorem eff_any (k : Int) (w : World) (h1 : 0 ≤ k) (h2 : k ≤ 255) : Calls Try.prog 15 #[.int .u8 k] w fun e w' => e = .returned (.int .i64 (eff k)) ∧ w = w' := by
  by_cases h : k ≤ 5
  all_goals
    have M := Lib.hid (show eff k = if k ≤ 5 then k else -1 from rfl)
    go_enter Try.func15, Try.ntmps15
    go_wp2
    go_ret
    exact ⟨ret_int (by rw [M.out]; split <;> omega), rfl⟩
theorem eff_bd (k : Int) (h1 : 0 ≤ k) : -1 ≤ eff k ∧ eff k ≤ 5 := by unfold eff; split <;> omega
theorem effOf_any (c : Bool) (y n : Int) (w : World) (h1 : 0 ≤ y) (h2 : y ≤ 255) (h3 : 0 ≤ n) (h4 : n ≤ 255) : Calls Try.prog 6 #[.bool c, .int .u8 y, .int .u8 n] w fun e w' => e = .returned (.int .i64 (effOf c y n)) ∧ w = w' := by
  have M := Lib.hid (show effOf c y n = if c then (if 0 ≤ eff y ∧ eff y = eff n then eff y else -1) else eff y from rfl)
  cases c
  · go_enter Try.func6, Try.ntmps6
    go_wp2_with (go_at_call 15; refine (eff_any _ _ (by omega) (by omega)).mono ?_; rintro e w' ⟨rfl, rfl⟩)
    go_ret
    exact ⟨ret_int (by rw [M.out]; simp), rfl⟩
  · by_cases t1 : 0 ≤ eff y
    · cases t2 : (eff y == eff n)
      all_goals
        have b1 := eff_bd y h1
        have b2 := eff_bd n h3
        go_enter Try.func6, Try.ntmps6
        go_wp2_with (go_at_call 15; refine (eff_any _ _ (by omega) (by omega)).mono ?_; rintro e w' ⟨rfl, rfl⟩)
        go_ret
        exact ⟨ret_int (by rw [M.out]; simp at t2; simp only [if_true]; split <;> omega), rfl⟩
    · have b1 := eff_bd y h1
      have t3 : decide (0 ≤ eff y) = false := by simpa using t1
      go_enter Try.func6, Try.ntmps6
      go_wp2_with (go_at_call 15; refine (eff_any _ _ (by omega) (by omega)).mono ?_; rintro e w' ⟨rfl, rfl⟩)
      go_ret
      exact ⟨ret_int (by rw [M.out]; simp only [if_true]; split <;> omega), rfl⟩
theorem prim_cases (k : Int) (h : 0 ≤ k) : (k ≤ 5 ∧ prim k = k + 2) ∨ (5 < k ∧ prim k = 0) := by
  rcases eleven k h with rfl | rfl | rfl | rfl | rfl | rfl | rfl | rfl | rfl | rfl | h
  all_goals first | exact .inr ⟨by omega, (big k h).1⟩ | exact .inl ⟨by omega, rfl⟩ | exact .inr ⟨by omega, rfl⟩
theorem law (c : Bool) (y n : Int) (hy : 0 ≤ y) (hn : 0 ≤ n) : (0 ≤ effOf c y n ∧ effOf c y n ≤ 5 ∧ code c y n = effOf c y n + 2) ∨ (effOf c y n = -1 ∧ (code c y n = 0 ∨ code c y n = 1)) := by
  have a := prim_cases y hy
  have b := prim_cases n hn
  unfold effOf code merge eff
  cases c
  · simp only [Bool.false_eq_true, if_false]
    split <;> omega
  · simp only [if_true]
    rcases a with ⟨a1, a2⟩ | ⟨a1, a2⟩ <;> rcases b with ⟨b1, b2⟩ | ⟨b1, b2⟩ <;> rw [a2, b2] <;> (repeat' split) <;> omega
theorem final (c d : Bool) (y n u v : Int) (hy : 0 ≤ y) (hn : 0 ≤ n) (hu : 0 ≤ u) (hv : 0 ≤ v) : canB (code c y n) (code d u v) = (decide (0 ≤ effOf c y n) && effOf c y n == effOf d u v) := by
  have a := law c y n hy hn
  have b := law d u v hu hv
  unfold canB
  rw [Bool.eq_iff_iff]
  simp
  omega

set_option maxRecDepth 100000 in
theorem walk (a0 : Bool) (a1 : Int) (a2 : Int) (a3 : Bool) (a4 : Int) (a5 : Int) (w : World) (w1 : (Lit.int .u8 a1).wf = true) (w2 : (Lit.int .u8 a2).wf = true) (w4 : (Lit.int .u8 a4).wf = true) (w5 : (Lit.int .u8 a5).wf = true) :
    Calls Try.prog 3 #[.bool a0, .int .u8 a1, .int .u8 a2, .bool a3, .int .u8 a4, .int .u8 a5] w fun e w' => e = .returned (.bool true) ∧ Below w.heap.size w w' := by
  obtain ⟨hl1, hh1⟩ := bounds_u8 w1
  obtain ⟨hl2, hh2⟩ := bounds_u8 w2
  obtain ⟨hl4, hh4⟩ := bounds_u8 w4
  obtain ⟨hl5, hh5⟩ := bounds_u8 w5
  clear w1 w2 w4 w5
  have F := Lib.hid (final a0 a3 a1 a2 a4 a5 hl1 hl2 hl4 hl5)
  have hB : -1 ≤ effOf a0 a1 a2 := by have := law a0 a1 a2 hl1 hl2; omega
  cases t1 : decide (0 ≤ effOf a0 a1 a2) <;> cases t2 : (effOf a0 a1 a2 == effOf a3 a4 a5)
  all_goals
    rw [t1, t2] at F
    go_enter Try.func3, Try.ntmps3
    go_wp2_with (go_at_call 6; refine (effOf_any _ _ _ _ (by omega) (by omega) (by omega) (by omega)).mono ?_; rintro e w' ⟨rfl, rfl⟩)
    refine (build_any a0 a1 a2 hl1 hl2 _).mono ?_
    rintro e w1 ⟨d1, rfl, k1, hb1⟩
    have K1 := Lib.hid k1
    clear k1
    go_wp2_with fail
    refine (build_any a3 a4 a5 hl4 hl5 _).mono ?_
    rintro e w2 ⟨d2, rfl, k2, hb2⟩
    have K2 := Lib.hid k2
    clear k2
    go_wp2_with fail
    refine (can_any _ d1 d2 0 0 _ _ (K1.out.later hb2) K2.out).mono ?_
    rintro e w3 ⟨rfl, hb3⟩
    go_wp2_with fail
    go_ret
    refine ⟨ret_true (by rw [F.out]; rfl), ?_⟩
    exact hb1.trans ((hb2.mono hb1.size).trans (hb3.mono (Nat.le_trans hb1.size hb2.size)))

/-! ### THE ROW's STEP: WRITTEN OUT: LEAVE IT -/
set_option maxRecDepth 100000 in
theorem lifted (os : Os) (started : os.Started) (H : Type) (enc : TypeId × Value → H) :
    ReturnsInHanded {} Try.checked os 3 .any (Rows.fnCanChangeStrictToLooseMatchesLeafModelSpec.pre6 enc Try.prog Try.f3 Rows.fnCanChangeStrictToLooseMatchesLeafModelRow.domain false) (Rows.fnCanChangeStrictToLooseMatchesLeafModelSpec.post enc Try.prog Try.f3 false true false false) := by
  refine returnsInHanded_of_change (C := Try.checked) own started (by kernel_rfl) Try.func3
    (ChangeSpec.witness6 (enc := enc) (C := Try.checked) false ⟨#[], #[.bool false, .int .u8 0, .int .u8 0, .bool false, .int .u8 0, .int .u8 0], []⟩ 8 (by kernel_rfl) (by kernel_rfl) (by kernel_rfl) (by kernel_rfl)) ?_
  intro W base args ds gs before hval0 hW hcnd _
  have hval : ∀ (j : Nat) t v, Try.f3.params[j]? = some t → args[j]? = some v → Value.okWide Try.prog W .any base t v := hval0
  have hW' := hW
  obtain ⟨p, q, hA0, hV, rfl, hfz, hnd⟩ := hW
  have hA : DataW.TrodAll enc Try.prog W 0 (fun _ => true) true Try.f3.params.toList args.toList ds p := hA0
  rw [Try.params3] at hA hval
  obtain ⟨v0, vs0, d0, ds0, p0, q0, hargs, rfl, rfl, h0, r0⟩ := trodAll_cons hA
  obtain ⟨v1, vs1, d1, ds1, p1, q1, rfl, rfl, rfl, h1, r1⟩ := trodAll_cons r0
  obtain ⟨v2, vs2, d2, ds2, p2, q2, rfl, rfl, rfl, h2, r2⟩ := trodAll_cons r1
  obtain ⟨v3, vs3, d3, ds3, p3, q3, rfl, rfl, rfl, h3, r3⟩ := trodAll_cons r2
  obtain ⟨v4, vs4, d4, ds4, p4, q4, rfl, rfl, rfl, h4, r4⟩ := trodAll_cons r3
  obtain ⟨v5, vs5, d5, ds5, p5, q5, rfl, rfl, rfl, h5, r5⟩ := trodAll_cons r4
  obtain ⟨rfl, rfl, rfl⟩ := trodAll_nil r5
  obtain rfl : args = #[v0, v1, v2, v3, v4, v5] := by cases args; simp_all
  obtain ⟨rfl, rfl⟩ := trodVars_none hV
  obtain ⟨a0, rfl, rfl, rfl⟩ := open_bool Try.underlying4 (hval 0 4 v0 rfl rfl) h0
  obtain ⟨a1, rfl, rfl, rfl, w1⟩ := open_int Try.underlying5 (hval 1 5 v1 rfl rfl) h1
  obtain ⟨a2, rfl, rfl, rfl, w2⟩ := open_int Try.underlying5 (hval 2 5 v2 rfl rfl) h2
  obtain ⟨a3, rfl, rfl, rfl⟩ := open_bool Try.underlying4 (hval 3 4 v3 rfl rfl) h3
  obtain ⟨a4, rfl, rfl, rfl, w4⟩ := open_int Try.underlying5 (hval 4 5 v4 rfl rfl) h4
  obtain ⟨a5, rfl, rfl, rfl, w5⟩ := open_int Try.underlying5 (hval 5 5 v5 rfl rfl) h5
  clear hA0 hval0
  refine (walk a0 a1 a2 a3 a4 a5 W w1 w2 w4 w5).mono fun e W' ⟨he, bel⟩ => ?_
  subst he
  exact ⟨_, rfl, _, _, _, [], _, [], hW', trodAll_mk1 (shut_bool Try.underlying4 _), (trodAll_cons_mk (shut_bool Try.underlying4 _) (trodAll_cons_mk (shut_int Try.underlying5 w1) (trodAll_cons_mk (shut_int Try.underlying5 w2) (trodAll_cons_mk (shut_bool Try.underlying4 _) (trodAll_cons_mk (shut_int Try.underlying5 w4) (trodAll_cons_mk (shut_int Try.underlying5 w5) trodAll_mk0)))))), rfl, bel.frame _, fun h => by cases h⟩

theorem over : Rows.fnCanChangeStrictToLooseMatchesLeafModelRow.holds Try.pinned (OpenSpec.ofChange Rows.fnCanChangeStrictToLooseMatchesLeafModelSpec) :=
  OpenClaim.holds_of_wide 3 Try.f3 rfl rfl rfl rfl rfl rfl rfl ⟨rfl, rfl, rfl, rfl, rfl⟩ rfl rfl rfl rfl rfl (by kernel_rfl) Try.func3 (by kernel_rfl)
    (of_decide_eq_true (by kernel_rfl)) (by unfold Func.isWrapper; first | (rw [if_pos (by decide +kernel)]; kernel_rfl) | (rw [if_neg (by decide +kernel)]; exact ⟨rfl, rfl⟩))
    (fun os started H enc _ => lifted os started H enc)

/-- THE STATEMENT -/
theorem proved : Rows.FnCanChangeStrictToLooseMatchesLeafModelSaid := over
#print axioms proved
end Go.Proofs.Ytaljndnoeiocdaa.fnCanChangeStrictToLooseMatchesLeafModel
