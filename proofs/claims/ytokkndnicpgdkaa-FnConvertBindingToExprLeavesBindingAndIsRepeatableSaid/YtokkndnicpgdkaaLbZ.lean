/-
  Two expressions of one stream in separate blocks are distinct, walked node by node; no statement of its own.
-/
import Derived.Test.YtokkndnicpgdkaaRows
import Derived.WalkKit
import Derived.ProofKit
import Derived.OpenShut
import Derived.Test.YtokkndnicpgdkaaSlW
import Derived.Test.YtokkndnicpgdkaaLbA
import Derived.Test.YtokkndnicpgdkaaLbR
import Derived.Test.YtokkndnicpgdkaaLbE
import Derived.WalkLawsBesides
import Derived.WalkSpells
import Derived.Below
import Derived.Lib.Hide
import Derived.Outline
import Derived.RegionTactic
import Derived.Deep.QuietTactic
import Derived.BigQuiet
import Derived.Deep.Cut
import Derived.LoopTactic
import Derived.StillTailTactics
import Derived.LaidEqlPtr
namespace Go.Proofs.Ytokkndnicpgdkaa
open Go.ChangeShapes Go.WideShapes Go.ChangeAt Go.RowKit

set_option linter.unusedVariables false

def Yes (w : World) (e : Ending) (w' : World) : Prop := e = .returned (.bool true) ∧ Below w.heap.size w w'
theorem run_neq_ptr_other {P : Program} (w : World) {tp te : TypeId} {a b : Addr} {ca cb : Array Value} {ta tb : TypeId} (hp : P.underlying tp = some (.pointer te)) (hsz : (P.info? te).map (fun i => decide (i.size = 0)) = some false)
    (hne : a ≠ b) (ha : w.heap[a.block]? = some (.cells ca ta (0, 0))) (hb : w.heap[b.block]? = some (.cells cb tb (0, 0))) :
    (binOp .neq tp (.pointer (some a)) (.pointer (some b))).run P w = .ok (.bool true) w := by
  cases hte : P.info? te with
  | none => rw [hte] at hsz; cases hsz
  | some j =>
    rw [hte] at hsz
    have hsz' : j.size ≠ 0 := by simpa using hsz
    have h : ∀ d : Nat, (Op.equalIn (d + 1) tp (.pointer (some a)) (.pointer (some b))).run P w = .ok false w := fun d => by
      simp [Op.equalIn, run_underlying hp, sizeOf, typeInfo, hte, hsz', run_sameAddr_other w hne ha hb]
    simp only [binOp]
    simp [Op.equal, Op.maxDepth, h 9999]
theorem run_eq_ptr_other {P : Program} (w : World) {tp te : TypeId} {a b : Addr} {ca cb : Array Value} {ta tb : TypeId} (hp : P.underlying tp = some (.pointer te)) (hsz : (P.info? te).map (fun i => decide (i.size = 0)) = some false)
    (hne : a ≠ b) (ha : w.heap[a.block]? = some (.cells ca ta (0, 0))) (hb : w.heap[b.block]? = some (.cells cb tb (0, 0))) :
    (binOp .eql tp (.pointer (some a)) (.pointer (some b))).run P w = .ok (.bool false) w := by
  cases hte : P.info? te with
  | none => rw [hte] at hsz; cases hsz
  | some j =>
    rw [hte] at hsz
    have hsz' : j.size ≠ 0 := by simpa using hsz
    exact run_eql_ptr_other w hp hte hsz' hne ha hb
theorem addr_ne {g g' : Nat} (h : g ≠ g') : (⟨g, 0, none⟩ : Addr) ≠ ⟨g', 0, none⟩ := fun e => h (by injection e)
set_option maxRecDepth 100000 in
set_option maxHeartbeats 1000000 in
theorem dist_missing (w : World) (g g' : Nat) (l l' : Int) : Calls Try.prog 12 #[.agg #[.iface 83 (ptr g), .int .i32 l], .agg #[.iface 83 (ptr g'), .int .i32 l']] w (Yes w) := by
  go_enter Try.func12, Try.ntmps12
  go_wp2_with fail
  go_ret
  exact ⟨rfl, by repeat (with_reducible first | exact Below.refl _ _ | refine Below.alloc ?_ (by first | (simp; done) | (simp <;> omega) | omega) _)⟩
set_option maxRecDepth 100000 in
set_option maxHeartbeats 1000000 in
theorem dist_ident (w : World) (g g' : Nat) (l l' : Int) (hg : g ≠ g') {ca cb : Array Value} (b1 : Bk w g 87 ca) (b2 : Bk w g' 87 cb) : Calls Try.prog 12 #[.agg #[.iface 85 (ptr g), .int .i32 l], .agg #[.iface 85 (ptr g'), .int .i32 l']] w (Yes w) := by
  have B1 := Lib.hid b1
  have B2 := Lib.hid b2
  clear b1 b2
  go_enter Try.func12, Try.ntmps12
  go_upto_region 7 with fail
  obtain ⟨w2, hw2⟩ : ∃ w2, w2 = (w.alloc (.cells #[.iface 85 (ptr g), .int .i32 l] 42)).alloc (.cells #[.iface 85 (ptr g'), .int .i32 l'] 42) := ⟨_, rfl⟩
  rw [← hw2]
  have L2 : Hid (Below w.heap.size w w2) := by rw [hw2]; exact Lib.hid (((Below.refl _ _).alloc (Nat.le_refl _) _).alloc (by simp) _)
  have cx : w2.cell? ⟨w.heap.size + 1, 0, none⟩ = some (.iface 85 (ptr g')) := by rw [hw2]; exact (show Bk _ (w.heap.size + 1) 42 _ from Bk.new' _ _ _ _ (by simp)).cell 0
  have zx : w.heap.size + 1 < w2.heap.size := by rw [hw2]; simp
  have ne := run_neq_ptr_other (P := Try.prog) w2 (tp := 85) Try.underlying85 (by kernel_rfl) (addr_ne hg) (B1.out.later L2.out) (B2.out.later L2.out)
  clear hw2
  go_wp2_with fail
  go_ret
  exact ⟨rfl, L2.out⟩
set_option maxRecDepth 100000 in
set_option maxHeartbeats 1000000 in
theorem dist_spread (w : World) (g g' : Nat) (l l' : Int) (hg : g ≠ g') (d d' : Value) (a a' : Value) (b1 : Bk w g 91 #[d, a]) (b2 : Bk w g' 91 #[d', a'])
    (kid : ∀ w1, Below w.heap.size w w1 → Calls Try.prog 12 #[.agg #[d, a], .agg #[d', a']] w1 (Yes w1)) : Calls Try.prog 12 #[.agg #[.iface 89 (ptr g), .int .i32 l], .agg #[.iface 89 (ptr g'), .int .i32 l']] w (Yes w) := by
  have KID := Lib.hid kid
  have B1 := Lib.hid b1
  have B2 := Lib.hid b2
  clear kid b1 b2
  go_enter Try.func12, Try.ntmps12
  go_upto_region 12 with fail
  obtain ⟨w2, hw2⟩ : ∃ w2, w2 = (w.alloc (.cells #[.iface 89 (ptr g), .int .i32 l] 42)).alloc (.cells #[.iface 89 (ptr g'), .int .i32 l'] 42) := ⟨_, rfl⟩
  rw [← hw2]
  have L2 : Hid (Below w.heap.size w w2) := by rw [hw2]; exact Lib.hid (((Below.refl _ _).alloc (Nat.le_refl _) _).alloc (by simp) _)
  have c1 := B1.out.later L2.out
  have c2 := B2.out.later L2.out
  have e0 : w2.cell? ⟨g, 0, none⟩ = some d := c1.cell 0
  have e1 : w2.cell? ⟨g, 1, none⟩ = some a := c1.cell 1
  have e2 : w2.cell? ⟨g', 0, none⟩ = some d' := c2.cell 0
  have e3 : w2.cell? ⟨g', 1, none⟩ = some a' := c2.cell 1
  have zg := c1.lt
  have zg' := c2.lt
  have ne := run_neq_ptr_other (P := Try.prog) w2 (tp := 89) Try.underlying89 (by kernel_rfl) (addr_ne hg) c1 c2
  have ne' := run_neq_ptr_other (P := Try.prog) w2.drew (tp := 89) Try.underlying89 (by kernel_rfl) (addr_ne hg) c1.drew c2.drew
  clear hw2 c1 c2
  go_still_tail 15, (by kernel_rfl)
  change wpList _ _ _ _ _ w2.drew
  obtain ⟨w3, hw3⟩ : ∃ w3, w3 = w2.drew := ⟨_, rfl⟩
  rw [← hw3]
  have L3 : Hid (Below w.heap.size w w3) := by rw [hw3]; exact L2.out.drew
  clear hw3 e0 e1 e2 e3
  go_wp2_with fail
  refine (KID.out w3 L3.out).mono ?_
  rintro e w4 ⟨rfl, hb4⟩
  go_wp2_with fail
  go_ret
  exact ⟨rfl, L3.out.trans (hb4.mono L3.out.size)⟩
set_option maxRecDepth 100000 in
set_option maxHeartbeats 4000000 in
theorem dist_arr (w : World) (q1 q2 K1 K2 n0 : Nat) (s1 s2 : Bool) (f1 f2 : Nat → Nat → Value) (l1 l2 : Int) (hq : q1 ≠ q2) (hK : K1 ≠ K2) (n15 : n0 ≤ 15) (b1 : Bk w q1 95 #[.slice (some ⟨K1, 0, none⟩) n0 n0, .int .i32 0, .int .i32 0, .bool s1, .bool false]) (b2 : Bk w q2 95 #[.slice (some ⟨K2, 0, none⟩) n0 n0, .int .i32 0, .int .i32 0, .bool s2, .bool false])
    (r1 : Rw w K1 42 n0 2 f1) (r2 : Rw w K2 42 n0 2 f2)
    (kid : ∀ i, i < n0 → ∀ w1, Below w.heap.size w w1 → Calls Try.prog 12 #[.agg #[f1 i 0, f1 i 1], .agg #[f2 i 0, f2 i 1]] w1 (Yes w1)) : Calls Try.prog 12 #[.agg #[.iface 93 (ptr q1), .int .i32 l1], .agg #[.iface 93 (ptr q2), .int .i32 l2]] w (Yes w) := by
  have KID := Lib.hid kid
  have B1 := Lib.hid b1
  have B2 := Lib.hid b2
  have R1 := Lib.hid r1
  have R2 := Lib.hid r2
  clear kid b1 b2 r1 r2
  go_enter Try.func12, Try.ntmps12
  go_upto_region 16 with fail
  obtain ⟨w2, hw2⟩ : ∃ w2, w2 = (w.alloc (.cells #[.iface 93 (ptr q1), .int .i32 l1] 42)).alloc (.cells #[.iface 93 (ptr q2), .int .i32 l2] 42) := ⟨_, rfl⟩
  rw [← hw2]
  have L2 : Hid (Below w.heap.size w w2) := by rw [hw2]; exact Lib.hid (((Below.refl _ _).alloc (Nat.le_refl _) _).alloc (by simp) _)
  have c1 := B1.out.later L2.out
  have c2 := B2.out.later L2.out
  have e1 : w2.cell? ⟨q1, 0, none⟩ = some (.slice (some ⟨K1, 0, none⟩) n0 n0) := c1.cell 0
  have e2 : w2.cell? ⟨q2, 0, none⟩ = some (.slice (some ⟨K2, 0, none⟩) n0 n0) := c2.cell 0
  have zg := c1.lt
  have zg' := c2.lt
  have ne := fun m => run_eq_ptr_other (P := Try.prog) (w2.drewN m) (tp := 93) Try.underlying93 (by kernel_rfl) (addr_ne hq) c1 c2
  have ne' := run_eq_ptr_other (P := Try.prog) w2 (tp := 93) Try.underlying93 (by kernel_rfl) (addr_ne hq) c1 c2
  clear hw2 c1 c2
  go_quiet (fail)
  clear ne ne'
  obtain ⟨w3, hw3⟩ : ∃ w3, w3 = w2.drewN nq := ⟨_, rfl⟩
  rw [← hw3]
  have L3 : Hid (Below w.heap.size w w3) := by rw [hw3]; exact below_drewN L2.out nq
  have E1 : w3.cell? ⟨q1, 0, none⟩ = some (.slice (some ⟨K1, 0, none⟩) n0 n0) := by rw [hw3]; exact e1
  have E2 : w3.cell? ⟨q2, 0, none⟩ = some (.slice (some ⟨K2, 0, none⟩) n0 n0) := by rw [hw3]; exact e2
  have Z1 : q1 < w3.heap.size := by rw [hw3]; exact zg
  have Z2 : q2 < w3.heap.size := by rw [hw3]; exact zg'
  clear hw3 e1 e2 zg zg'
  go_upto_region 18 with fail
  go_cut [141] from 27 (fun s wx => s = .bool false ∧ Hid (Below w.heap.size w wx))
  case first => as_aux_lemma =>
    by_cases h0 : n0 = 0
    · have hd : decide ((0 : Int) < (n0 : Int)) = false := by simp; omega
      have hd2 : decide (0 < n0) = false := by simp; omega
      clear h0
      go_quiet (fail)
      go_wp2_with fail
      go_meet
      case rel => exact ⟨rfl, below_drewN L3.out _⟩
    · have hd' : (0 : Int) < (n0 : Int) := by omega
      have hd2 : 0 < n0 := by omega
      have ne := fun m => run_eq_ptr_other (P := Try.prog) (w3.drewN m) (tp := 111) Try.underlying111 (by kernel_rfl) (addr_ne hK) (R1.out.move fun cs h => h.later L3.out).choose_spec.1 (R2.out.move fun cs h => h.later L3.out).choose_spec.1
      have ne' := run_eq_ptr_other (P := Try.prog) w3 (tp := 111) Try.underlying111 (by kernel_rfl) (addr_ne hK) (R1.out.move fun cs h => h.later L3.out).choose_spec.1 (R2.out.move fun cs h => h.later L3.out).choose_spec.1
      clear h0
      go_quiet (fail)
      go_wp2_with fail
      go_meet
      case rel => exact ⟨rfl, below_drewN L3.out _⟩
  as_aux_lemma =>
    obtain ⟨rfl, HB⟩ := hcut
    clear E1 E2 Z1 Z2 L3 L2
    go_wp2_with fail
    go_loopw [21] (fun v wr => ∃ k : Nat, k ≤ n0 ∧ v = .int .i64 k ∧ Hid (Below w.heap.size w wr)) (fun v _ => n0 - (intOf v).toNat)
    case atStart => exact ⟨0, by omega, rfl, HB⟩
    case round =>
      obtain ⟨k, hk, rfl, H⟩ := hrel
      have c1 := B1.out.later H.out
      have c2 := B2.out.later H.out
      have e1 : wr.cell? ⟨q1, 0, none⟩ = some (.slice (some ⟨K1, 0, none⟩) n0 n0) := c1.cell 0
      have e2 : wr.cell? ⟨q2, 0, none⟩ = some (.slice (some ⟨K2, 0, none⟩) n0 n0) := c2.cell 0
      have zg := c1.lt
      have zg' := c2.lt
      clear c1 c2
      by_cases hlt : k < n0
      · have d1 := R1.out.move fun cs h => h.later H.out
        have d2 := R2.out.move fun cs h => h.later H.out
        have x0 := d1.cell (i := k) (j := 0) hlt (by omega)
        have x1 := d1.cell (i := k) (j := 1) hlt (by omega)
        have y0 := d2.cell (i := k) (j := 0) hlt (by omega)
        have y1 := d2.cell (i := k) (j := 1) hlt (by omega)
        rw [Nat.add_zero] at x0 y0
        have zk1 := d1.lt
        have zk2 := d2.lt
        have hli : (k : Int) < (n0 : Int) := by omega
        clear d1 d2
        go_upto_region 23 with fail
        go_still_tail 14, (by kernel_rfl)
        change wpList _ _ _ _ _ wr.drew
        obtain ⟨w5, hw5⟩ : ∃ w5, w5 = wr.drew := ⟨_, rfl⟩
        rw [← hw5]
        have L5 : Hid (Below w.heap.size w w5) := by rw [hw5]; exact H.out.drew
        clear hw5
        go_wp2_with fail
        refine (KID.out k hlt w5 L5.out).mono ?_
        rintro e w6 ⟨rfl, hb6⟩
        have L6 := Lib.hid (L5.out.trans (hb6.mono L5.out.size))
        clear hb6
        go_wp2_with fail
        go_roundw
        case rel => exact ⟨k + 1, by omega, by go_num, L6⟩
        case measure => simp [intOf]; omega
      · go_wp2_with fail
        go_ret
        exact ⟨rfl, H.out⟩
set_option maxRecDepth 100000 in
set_option maxHeartbeats 4000000 in
theorem dist_obj (w : World) (q1 q2 K1 K2 n0 : Nat) (s1 s2 : Bool) (f1 f2 : Nat → Nat → Value) (l1 l2 : Int) (hq : q1 ≠ q2) (hK : K1 ≠ K2) (n15 : n0 ≤ 15) (b1 : Bk w q1 105 #[.slice (some ⟨K1, 0, none⟩) n0 n0, .int .i32 0, .int .i32 0, .bool s1, .bool false]) (b2 : Bk w q2 105 #[.slice (some ⟨K2, 0, none⟩) n0 n0, .int .i32 0, .int .i32 0, .bool s2, .bool false])
    (r1 : Rw w K1 102 n0 12 f1) (r2 : Rw w K2 102 n0 12 f2)
    (kid : ∀ i, i < n0 → ∀ w1, Below w.heap.size w w1 → Calls Try.prog 12 #[.agg #[f1 i 3, f1 i 4], .agg #[f2 i 3, f2 i 4]] w1 (Yes w1)) : Calls Try.prog 12 #[.agg #[.iface 103 (ptr q1), .int .i32 l1], .agg #[.iface 103 (ptr q2), .int .i32 l2]] w (Yes w) := by
  have KID := Lib.hid kid
  have B1 := Lib.hid b1
  have B2 := Lib.hid b2
  have R1 := Lib.hid r1
  have R2 := Lib.hid r2
  clear kid b1 b2 r1 r2
  go_enter Try.func12, Try.ntmps12
  go_upto_region 29 with fail
  obtain ⟨w2, hw2⟩ : ∃ w2, w2 = (w.alloc (.cells #[.iface 103 (ptr q1), .int .i32 l1] 42)).alloc (.cells #[.iface 103 (ptr q2), .int .i32 l2] 42) := ⟨_, rfl⟩
  rw [← hw2]
  have L2 : Hid (Below w.heap.size w w2) := by rw [hw2]; exact Lib.hid (((Below.refl _ _).alloc (Nat.le_refl _) _).alloc (by simp) _)
  have c1 := B1.out.later L2.out
  have c2 := B2.out.later L2.out
  have e1 : w2.cell? ⟨q1, 0, none⟩ = some (.slice (some ⟨K1, 0, none⟩) n0 n0) := c1.cell 0
  have e2 : w2.cell? ⟨q2, 0, none⟩ = some (.slice (some ⟨K2, 0, none⟩) n0 n0) := c2.cell 0
  have zg := c1.lt
  have zg' := c2.lt
  have ne := fun m => run_eq_ptr_other (P := Try.prog) (w2.drewN m) (tp := 103) Try.underlying103 (by kernel_rfl) (addr_ne hq) c1 c2
  have ne' := run_eq_ptr_other (P := Try.prog) w2 (tp := 103) Try.underlying103 (by kernel_rfl) (addr_ne hq) c1 c2
  clear hw2 c1 c2
  go_quiet (fail)
  clear ne ne'
  obtain ⟨w3, hw3⟩ : ∃ w3, w3 = w2.drewN nq := ⟨_, rfl⟩
  rw [← hw3]
  have L3 : Hid (Below w.heap.size w w3) := by rw [hw3]; exact below_drewN L2.out nq
  have E1 : w3.cell? ⟨q1, 0, none⟩ = some (.slice (some ⟨K1, 0, none⟩) n0 n0) := by rw [hw3]; exact e1
  have E2 : w3.cell? ⟨q2, 0, none⟩ = some (.slice (some ⟨K2, 0, none⟩) n0 n0) := by rw [hw3]; exact e2
  have Z1 : q1 < w3.heap.size := by rw [hw3]; exact zg
  have Z2 : q2 < w3.heap.size := by rw [hw3]; exact zg'
  clear hw3 e1 e2 zg zg'
  go_upto_region 31 with fail
  go_cut [218] from 27 (fun s wx => s = .bool false ∧ Hid (Below w.heap.size w wx))
  case first => as_aux_lemma =>
    by_cases h0 : n0 = 0
    · have hd : decide ((0 : Int) < (n0 : Int)) = false := by simp; omega
      have hd2 : decide (0 < n0) = false := by simp; omega
      clear h0
      go_quiet (fail)
      go_wp2_with fail
      go_meet
      case rel => exact ⟨rfl, below_drewN L3.out _⟩
    · have hd' : (0 : Int) < (n0 : Int) := by omega
      have hd2 : 0 < n0 := by omega
      have ne := fun m => run_eq_ptr_other (P := Try.prog) (w3.drewN m) (tp := 112) Try.underlying112 (by kernel_rfl) (addr_ne hK) (R1.out.move fun cs h => h.later L3.out).choose_spec.1 (R2.out.move fun cs h => h.later L3.out).choose_spec.1
      have ne' := run_eq_ptr_other (P := Try.prog) w3 (tp := 112) Try.underlying112 (by kernel_rfl) (addr_ne hK) (R1.out.move fun cs h => h.later L3.out).choose_spec.1 (R2.out.move fun cs h => h.later L3.out).choose_spec.1
      clear h0
      go_quiet (fail)
      go_wp2_with fail
      go_meet
      case rel => exact ⟨rfl, below_drewN L3.out _⟩
  as_aux_lemma =>
    obtain ⟨rfl, HB⟩ := hcut
    clear E1 E2 Z1 Z2 L3 L2
    go_wp2_with fail
    go_loopw [26] (fun v wr => ∃ k : Nat, k ≤ n0 ∧ v = .int .i64 k ∧ Hid (Below w.heap.size w wr)) (fun v _ => n0 - (intOf v).toNat)
    case atStart => exact ⟨0, by omega, rfl, HB⟩
    case round =>
      obtain ⟨k, hk, rfl, H⟩ := hrel
      have c1 := B1.out.later H.out
      have c2 := B2.out.later H.out
      have e1 : wr.cell? ⟨q1, 0, none⟩ = some (.slice (some ⟨K1, 0, none⟩) n0 n0) := c1.cell 0
      have e2 : wr.cell? ⟨q2, 0, none⟩ = some (.slice (some ⟨K2, 0, none⟩) n0 n0) := c2.cell 0
      have zg := c1.lt
      have zg' := c2.lt
      clear c1 c2
      by_cases hlt : k < n0
      · have d1 := R1.out.move fun cs h => h.later H.out
        have d2 := R2.out.move fun cs h => h.later H.out
        have x0 := d1.cell (i := k) (j := 3) hlt (by omega)
        have x1 := d1.cell (i := k) (j := 4) hlt (by omega)
        have y0 := d2.cell (i := k) (j := 3) hlt (by omega)
        have y1 := d2.cell (i := k) (j := 4) hlt (by omega)
        skip
        have zk1 := d1.lt
        have zk2 := d2.lt
        have hli : (k : Int) < (n0 : Int) := by omega
        clear d1 d2
        go_upto_region 36 with fail
        go_still_tail 16, (by kernel_rfl)
        change wpList _ _ _ _ _ wr.drew
        obtain ⟨w5, hw5⟩ : ∃ w5, w5 = wr.drew := ⟨_, rfl⟩
        rw [← hw5]
        have L5 : Hid (Below w.heap.size w w5) := by rw [hw5]; exact H.out.drew
        clear hw5
        go_wp2_with fail
        refine (KID.out k hlt w5 L5.out).mono ?_
        rintro e w6 ⟨rfl, hb6⟩
        have L6 := Lib.hid (L5.out.trans (hb6.mono L5.out.size))
        clear hb6
        go_wp2_with fail
        go_roundw
        case rel => exact ⟨k + 1, by omega, by go_num, L6⟩
        case measure => simp [intOf]; omega
      · go_wp2_with fail
        go_ret
        exact ⟨rfl, H.out⟩

end Go.Proofs.Ytokkndnicpgdkaa
