/-
  For every four bytes the law FnTypeofAgreesWithCanChangeStrictToLoose returns true and leaves its arguments as they were; no condition.
  The frame of this text was written by the kit's program proof-skeleton.mjs for this statement; the walk and its lemmas are the prover's.
-/
import Derived.Test.YtaljndnoeiocdaaRows
import Derived.WalkKit
import Derived.ProofKit
import Derived.OpenShut
import Derived.Test.YtaljndnoeiocdaaLeafA
import Derived.Test.YtaljndnoeiocdaaTypeB
import Derived.Outline
import Derived.Lib.Hide
import Derived.ShutString
import Derived.ChangeOld
import Derived.Below
import Derived.WalkLawsBesides
import Derived.Deep.Slices
namespace Go.Proofs.Ytaljndnoeiocdaa.fnTypeofAgreesWithCanChangeStrictToLoose
open Go.ChangeShapes Go.WideShapes Go.ChangeAt Go.RowKit
open Go.ChangeMaps (open_string shut_string)
open Go.Deep (open_slice1)
set_option linter.unusedVariables false

theorem own : ownKnob Try.prog.godebug = none := by kernel_rfl
theorem laidOut : laidOutB Try.prog = true := by kernel_rfl

def Wrapped (k : Int) (w : World) (e : Ending) (w' : World) : Prop := ∃ T v, e = .returned (.agg #[.iface T v, .int .i32 0]) ∧ Good (fun _ => False) w' (.iface T v) k ∧ Below w.heap.size w w'
def boxes (B : Nat) : Nat → Prop := fun b => b = B ∨ b = B + 1
structure WRel (w : World) (n k : Int) (j : Nat) (d : Value) (wr : World) : Prop where
  hj : (j : Int) ≤ n
  c0 : wr.cell? ⟨w.heap.size, 0, none⟩ = some d
  c1 : wr.cell? ⟨w.heap.size, 1, none⟩ = some (.int .i32 0)
  f0 : wr.frozen? ⟨w.heap.size, 0, none⟩ = false
  f1 : wr.frozen? ⟨w.heap.size, 1, none⟩ = false
  r0 : wr.cell? ⟨w.heap.size + 1, 0, none⟩ = some .nilIface
  r1 : wr.cell? ⟨w.heap.size + 1, 1, none⟩ = some (.int .i32 0)
  g0 : wr.frozen? ⟨w.heap.size + 1, 0, none⟩ = false
  g1 : wr.frozen? ⟨w.heap.size + 1, 1, none⟩ = false
  gd : Good (boxes w.heap.size) wr d k
  bl : Below w.heap.size w wr
  sz : w.heap.size + 1 < wr.heap.size
set_option maxHeartbeats 1000000 in
theorem wrap_any (T0 : TypeId) (v0 : Value) (n : Int) (k : Int) (w : World) (h1 : 0 ≤ n) (h2 : n ≤ 255) (g : Good (fun _ => False) w (.iface T0 v0) k) :
    Calls Try.prog 9 #[.agg #[.iface T0 v0, .int .i32 0], .int .u8 n] w (Wrapped k w) := by
  have G := Lib.hid g
  clear g
  go_enter Try.func9, Try.ntmps9
  go_wp2_with fail
  go_loopw [5] (fun i wr => ∃ j : Nat, i = .int .i64 j ∧ ∃ T v, WRel w n k j (.iface T v) wr) (fun i _ => (256 - intOf i).toNat)
  case atStart =>
    refine ⟨0, rfl, T0, v0, ?_⟩
    constructor
    · omega
    · simp [go_sem]
    · simp [go_sem]
    · simp [go_sem]
    · simp [go_sem]
    · simp [go_sem]
    · simp [go_sem]
    · simp [go_sem]
    · simp [go_sem]
    · exact (G.out.mono (X := boxes w.heap.size) (fun b hb hx => by unfold boxes at hx; omega)).later (ext_of_below (((Below.refl _ _).alloc (Nat.le_refl _) _).alloc (by simp) _))
    · exact ((Below.refl _ _).alloc (Nat.le_refl _) _).alloc (by simp) _
    · simp
  case round =>
    obtain ⟨j, rfl, T, v, hR⟩ := hrel
    obtain ⟨hj, c0, c1, f0, f1, r0, r1, g0, g1, gd, bl, sz⟩ := hR
    have GD := Lib.hid gd
    have BL := Lib.hid bl
    clear gd bl
    have sz0 : w.heap.size < wr.heap.size := by omega
    by_cases hlt : (j : Int) < n
    · go_wp2_with fail
      go_roundw
      case rel =>
        refine ⟨j + 1, by go_num, 58, .pointer (some ⟨wr.heap.size, 0, none⟩), ?_⟩
        have hgd : Good (boxes w.heap.size) _ (.iface T v) k := GD.out.later (((ext_set (X := boxes w.heap.size) wr w.heap.size 0 (.iface 58 (.pointer (some ⟨wr.heap.size, 0, none⟩))) (.inl rfl)).trans (ext_set _ w.heap.size 1 (.int .i32 0) (.inl rfl))).trans (ext_alloc _ (.cells #[.iface T v, .int .i32 0, .string ⟨#[]⟩] 60)))
        constructor
        · omega
        · simp [go_sem, c0, c1, sz0]
        · simp [go_sem, c0, c1, sz0]
        · simp [go_sem, f0, f1, sz0]
        · simp [go_sem, f0, f1, sz0]
        · simp [go_sem, r0, r1, sz]
        · simp [go_sem, r0, r1, sz]
        · simp [go_sem, g0, g1, sz]
        · simp [go_sem, g0, g1, sz]
        · exact good_enum _ _ wr.heap.size (.iface T v) k (by simp) (by unfold boxes; omega) (by simp [go_sem]) hgd
        · exact ((BL.out.setCell (by simp) _).setCell (by simp) _).alloc (by simp; omega) _
        · simp; omega
      case measure => simp [intOf]; omega
    · go_wp2_with fail
      refine bodyPost_ret (v := .agg #[.iface T v, .int .i32 0]) (by simp [results, Try.results9, go_sem, r0, r1]) rfl ⟨T, v, rfl, ?_, ?_⟩
      · exact (GD.out.later ((ext_set (X := boxes w.heap.size) wr (w.heap.size + 1) 0 _ (.inr rfl)).trans (ext_set _ (w.heap.size + 1) 1 _ (.inr rfl)))).mono (fun _ _ h => h.elim)
      · exact (BL.out.setCell (by simp) _).setCell (by simp) _
def canB (x y : Int) : Bool := x == y && x != 0 && x != 1
theorem can_any (w : World) (d1 d2 : Value) (l1 l2 k1 k2 : Int) (g1 : Good (fun _ => False) w d1 k1) (g2 : Good (fun _ => False) w d2 k2) :
    Calls Try.prog 7 #[.agg #[d1, .int .i32 l1], .agg #[d2, .int .i32 l2]] w fun e w' => e = .returned (.bool (canB (prim k1) (prim k2))) ∧ Below w.heap.size w w' := by
  have K1 := Lib.hid g1
  have K2 := Lib.hid g2
  generalize hp1 : prim k1 = p1 at *
  generalize hp2 : prim k2 = p2 at *
  have M := Lib.hid (show canB p1 p2 = (p1 == p2 && p1 != 0 && p1 != 1) from rfl)
  have P1 := Lib.hid hp1
  have P2 := Lib.hid hp2
  clear g1 g2 hp1 hp2
  cases t1 : (p1 == p2) <;> cases t2 : (p1 != 0) <;> cases t3 : (p1 != 1)
  all_goals
    rw [t1, t2, t3] at M
    go_enter Try.func7, Try.ntmps7
    go_wp2_with fail
    refine (K1.out.1 _ (ext_of_below (((Below.refl _ _).alloc (Nat.le_refl _) _).alloc (by simp) _))).mono ?_
    rw [P1.out]
    rintro e w1 ⟨rfl, hb⟩
    obtain ⟨hc, hf⟩ := bcell hb
    have hz : w.heap.size + 1 < w1.heap.size := by have := hb.size; simp at this; omega
    go_wp2_with fail
    refine (K2.out.1 _ (ext_of_below ((((Below.refl _ _).alloc (Nat.le_refl _) _).alloc (by simp) _).trans (hb.mono (by simp <;> omega))))).mono ?_
    rw [P2.out]
    rintro e w2 ⟨rfl, hb2⟩
    go_wp2_with fail
    go_ret
    refine ⟨?_, ((((Below.refl _ _).alloc (Nat.le_refl _) _).alloc (by simp) _).trans (hb.mono (by simp <;> omega))).trans (hb2.mono (by omega))⟩
    rw [M.out]; rfl
theorem bigL (k : Int) (h : 10 ≤ k) : prim k = 0 ∧ tok k = false ∧ tl k = [] := ⟨(big k h).1, (bigT k h).2, by unfold tl; repeat rw [if_neg (by omega)]⟩
theorem final (a b : Int) (ha : 0 ≤ a) (hb : 0 ≤ b) : canB (prim a) (prim b) = (tok a && tok b && (tl a == tl b) && !(tl a == [102, 117, 110, 99, 116, 105, 111, 110])) := by
  rcases eleven a ha with rfl | rfl | rfl | rfl | rfl | rfl | rfl | rfl | rfl | rfl | h
  all_goals rcases eleven b hb with rfl | rfl | rfl | rfl | rfl | rfl | rfl | rfl | rfl | rfl | h'
  all_goals first | decide | (rw [(bigL a h).1, (bigL a h).2.1, (bigL a h).2.2, (bigL b h').1, (bigL b h').2.1, (bigL b h').2.2]; decide) | (rw [(bigL b h').1, (bigL b h').2.1, (bigL b h').2.2]; decide) | (rw [(bigL a h).1, (bigL a h).2.1, (bigL a h).2.2]; decide)

set_option maxHeartbeats 4000000 in
theorem walk (a0 : Int) (a1 : Int) (a2 : Int) (a3 : Int) (w : World) (w0 : (Lit.int .u8 a0).wf = true) (w1 : (Lit.int .u8 a1).wf = true) (w2 : (Lit.int .u8 a2).wf = true) (w3 : (Lit.int .u8 a3).wf = true) :
    Calls Try.prog 4 #[.int .u8 a0, .int .u8 a1, .int .u8 a2, .int .u8 a3] w fun e w' => e = .returned (.bool true) ∧ Below w.heap.size w w' := by
  obtain ⟨hl0, hh0⟩ := bounds_u8 w0
  obtain ⟨hl1, hh1⟩ := bounds_u8 w1
  obtain ⟨hl2, hh2⟩ := bounds_u8 w2
  obtain ⟨hl3, hh3⟩ := bounds_u8 w3
  clear w0 w1 w2 w3
  have F := Lib.hid (final a0 a2 hl0 hl2)
  have n0 := tl_of a0 hl0
  have n2 := tl_of a2 hl2
  cases t1 : tok a0 <;> cases t2 : tok a2 <;> cases t3 : (tl a0 == tl a2) <;> cases t4 : (tl a0 == [102, 117, 110, 99, 116, 105, 111, 110]) <;> cases t5 : (tl a2 == [102, 117, 110, 99, 116, 105, 111, 110])
  all_goals
    rw [t1, t2, t3, t4] at F
    go_enter Try.func4, Try.ntmps4
    go_wp2_with fail
    refine (leaf_any a0 hl0 _).mono ?_
    rintro e w1 ⟨v1, rfl, hb1⟩
    go_wp2_with fail
    refine (wrap_any _ v1 a1 a0 _ hl1 hh1 (good_leaf _ a0 hl0 v1 _)).mono ?_
    rintro e w2 ⟨T2, v2, rfl, g2, hb2⟩
    have G2 := Lib.hid g2
    clear g2
    go_wp2_with fail
    refine (leaf_any a2 hl2 _).mono ?_
    rintro e w3 ⟨v3, rfl, hb3⟩
    go_wp2_with fail
    refine (wrap_any _ v3 a3 a2 _ hl3 hh3 (good_leaf _ a2 hl2 v3 _)).mono ?_
    rintro e w4 ⟨T4, v4, rfl, g4, hb4⟩
    have G4 := Lib.hid g4
    clear g4
    have hb34 := hb3.trans (hb4.mono hb3.size)
    obtain ⟨hc, hf⟩ := bcell hb34
    have c0 : w4.cell? ⟨w2.heap.size, 0, none⟩ = some (.iface T2 v2) := by rw [hc _ _ (by simp)]; simp
    have c1 : w4.cell? ⟨w2.heap.size, 1, none⟩ = some (.int .i32 0) := by rw [hc _ _ (by simp)]; simp
    have z2 : w2.heap.size < w4.heap.size := by have := hb34.size; simp at this; omega
    clear hc hf
    go_wp2_with fail
    refine (G2.out.2 _ ?_).mono ?_
    · exact ext_of_below (((Below.refl _ _).alloc (Nat.le_refl _) _).trans ((hb34.mono (by simp)).alloc (by omega) _))
    rw [t1]
    rintro e w5 ⟨rfl, hb5⟩
    obtain ⟨hc, hf⟩ := bcell hb5
    have e0 : w5.cell? ⟨w4.heap.size, 0, none⟩ = some (.iface T4 v4) := by rw [hc _ _ (by simp)]; simp
    have e1 : w5.cell? ⟨w4.heap.size, 1, none⟩ = some (.int .i32 0) := by rw [hc _ _ (by simp)]; simp
    have e2 : w5.cell? ⟨w2.heap.size, 0, none⟩ = some (.iface T2 v2) := by rw [hc _ _ (by simp; omega)]; simp [go_sem, c0, z2]
    have e3 : w5.cell? ⟨w2.heap.size, 1, none⟩ = some (.int .i32 0) := by rw [hc _ _ (by simp; omega)]; simp [go_sem, c1, z2]
    have z5 : w4.heap.size < w5.heap.size := by have := hb5.size; simp at this; omega
    clear hc hf c0 c1
    go_wp2_with fail
    refine (G4.out.2 _ ?_).mono ?_
    · exact ext_of_below (((Below.refl _ _).alloc (Nat.le_refl _) _).trans (hb5.mono (by simp)))
    rw [t2]
    rintro e w6 ⟨rfl, hb6⟩
    obtain ⟨hc, hf⟩ := bcell hb6
    have y0 : w6.cell? ⟨w4.heap.size, 0, none⟩ = some (.iface T4 v4) := by rw [hc _ _ (by omega)]; exact e0
    have y1 : w6.cell? ⟨w4.heap.size, 1, none⟩ = some (.int .i32 0) := by rw [hc _ _ (by omega)]; exact e1
    have y2 : w6.cell? ⟨w2.heap.size, 0, none⟩ = some (.iface T2 v2) := by rw [hc _ _ (by omega)]; exact e2
    have y3 : w6.cell? ⟨w2.heap.size, 1, none⟩ = some (.int .i32 0) := by rw [hc _ _ (by omega)]; exact e3
    clear hc hf e0 e1 e2 e3
    go_wp2_with fail
    refine (can_any _ (.iface T2 v2) (.iface T4 v4) 0 0 a0 a2 (G2.out.later (ext_of_below ?_)) (G4.out.later (ext_of_below ?_))).mono ?_
    · exact (((Below.refl _ _).alloc (Nat.le_refl _) _).trans ((hb34.mono (by simp)).alloc (by omega) _)).trans ((hb5.mono (by simp; omega)).trans (hb6.mono (by omega)))
    · exact (((Below.refl _ _).alloc (Nat.le_refl _) _).trans (hb5.mono (by simp))).trans (hb6.mono (by omega))
    rw [F.out]
    rintro e w7 ⟨rfl, hb7⟩
    go_wp2_with fail
    go_ret
    have s1 := hb1.size
    have s2 := hb2.size
    have s34 := hb34.size
    have s5 := hb5.size
    have s6 := hb6.size
    simp at s34 s5
    refine ⟨ret_true (by first | rfl | simp), ?_⟩
    exact (hb1.trans (hb2.mono s1)).trans ((((Below.refl _ _).alloc (by omega) _).trans ((hb34.mono (by simp; omega)).alloc (by omega) _)).trans ((hb5.mono (by simp; omega)).trans ((hb6.mono (by omega)).trans (hb7.mono (by omega)))))

/-! ### THE ROW's STEP: WRITTEN OUT: LEAVE IT -/
set_option maxRecDepth 100000 in
theorem lifted (os : Os) (started : os.Started) (H : Type) (enc : TypeId × Value → H) :
    ReturnsInHanded {} Try.checked os 4 .any (Rows.fnTypeofAgreesWithCanChangeStrictToLooseSpec.pre6 enc Try.prog Try.f4 Rows.fnTypeofAgreesWithCanChangeStrictToLooseRow.domain false) (Rows.fnTypeofAgreesWithCanChangeStrictToLooseSpec.post enc Try.prog Try.f4 false true false false) := by
  refine returnsInHanded_of_change (C := Try.checked) own started (by kernel_rfl) Try.func4
    (ChangeSpec.witness6 (enc := enc) (C := Try.checked) false ⟨#[], #[.int .u8 0, .int .u8 0, .int .u8 0, .int .u8 0], []⟩ 8 (by kernel_rfl) (by kernel_rfl) (by kernel_rfl) (by kernel_rfl)) ?_
  intro W base args ds gs before hval0 hW hcnd _
  have hval : ∀ (j : Nat) t v, Try.f4.params[j]? = some t → args[j]? = some v → Value.okWide Try.prog W .any base t v := hval0
  have hW' := hW
  obtain ⟨p, q, hA0, hV, rfl, hfz, hnd⟩ := hW
  have hA : DataW.TrodAll enc Try.prog W 0 (fun _ => true) true Try.f4.params.toList args.toList ds p := hA0
  rw [Try.params4] at hA hval
  obtain ⟨v0, vs0, d0, ds0, p0, q0, hargs, rfl, rfl, h0, r0⟩ := trodAll_cons hA
  obtain ⟨v1, vs1, d1, ds1, p1, q1, rfl, rfl, rfl, h1, r1⟩ := trodAll_cons r0
  obtain ⟨v2, vs2, d2, ds2, p2, q2, rfl, rfl, rfl, h2, r2⟩ := trodAll_cons r1
  obtain ⟨v3, vs3, d3, ds3, p3, q3, rfl, rfl, rfl, h3, r3⟩ := trodAll_cons r2
  obtain ⟨rfl, rfl, rfl⟩ := trodAll_nil r3
  obtain rfl : args = #[v0, v1, v2, v3] := by cases args; simp_all
  obtain ⟨rfl, rfl⟩ := trodVars_none hV
  obtain ⟨a0, rfl, rfl, rfl, w0⟩ := open_int Try.underlying5 (hval 0 5 v0 rfl rfl) h0
  obtain ⟨a1, rfl, rfl, rfl, w1⟩ := open_int Try.underlying5 (hval 1 5 v1 rfl rfl) h1
  obtain ⟨a2, rfl, rfl, rfl, w2⟩ := open_int Try.underlying5 (hval 2 5 v2 rfl rfl) h2
  obtain ⟨a3, rfl, rfl, rfl, w3⟩ := open_int Try.underlying5 (hval 3 5 v3 rfl rfl) h3
  clear hA0 hval0
  refine (walk a0 a1 a2 a3 W w0 w1 w2 w3).mono fun e W' ⟨he, bel⟩ => ?_
  subst he
  exact ⟨_, rfl, _, _, _, [], _, [], hW', trodAll_mk1 (shut_bool Try.underlying4 _), (trodAll_cons_mk (shut_int Try.underlying5 w0) (trodAll_cons_mk (shut_int Try.underlying5 w1) (trodAll_cons_mk (shut_int Try.underlying5 w2) (trodAll_cons_mk (shut_int Try.underlying5 w3) trodAll_mk0)))), rfl, bel.frame _, fun h => by cases h⟩

theorem over : Rows.fnTypeofAgreesWithCanChangeStrictToLooseRow.holds Try.pinned (OpenSpec.ofChange Rows.fnTypeofAgreesWithCanChangeStrictToLooseSpec) :=
  OpenClaim.holds_of_wide 4 Try.f4 rfl rfl rfl rfl rfl rfl rfl ⟨rfl, rfl, rfl, rfl, rfl⟩ rfl rfl rfl rfl rfl (by kernel_rfl) Try.func4 (by kernel_rfl)
    (of_decide_eq_true (by kernel_rfl)) (by unfold Func.isWrapper; first | (rw [if_pos (by decide +kernel)]; kernel_rfl) | (rw [if_neg (by decide +kernel)]; exact ⟨rfl, rfl⟩))
    (fun os started H enc _ => lifted os started H enc)

/-- THE STATEMENT -/
theorem proved : Rows.FnTypeofAgreesWithCanChangeStrictToLooseSaid := over
#print axioms proved
end Go.Proofs.Ytaljndnoeiocdaa.fnTypeofAgreesWithCanChangeStrictToLoose
