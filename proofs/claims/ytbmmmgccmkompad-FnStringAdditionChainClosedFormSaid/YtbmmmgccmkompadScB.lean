/-
  simplifyUnusedStringAdditionChain on one node, by what it makes of the left operand; no statement of their own.
-/
import Derived.Test.YtbmmmgccmkompadRows
import Derived.WalkKit
import Derived.ProofKit
import Derived.OpenShut
import Derived.Test.YtbmmmgccmkompadSlW
import Derived.Test.YtbmmmgccmkompadScA
import Derived.WalkLawsBesides
import Derived.WalkSpells
import Derived.Below
import Derived.Lib.Hide
import Derived.Outline
import Derived.LaidEql
import Derived.Laws.StructEq
import Derived.RegionTactic
import Derived.Deep.QuietTactic
import Derived.BigQuiet
import Derived.Deep.RegionHeld3
namespace Go.Proofs.Ytbmmmgccmkompad
open Go.ChangeShapes Go.WideShapes Go.ChangeAt Go.RowKit

set_option linter.unusedVariables false

def okT (T : TypeId) : Prop := T = 44 ∨ T = 46 ∨ T = 39
theorem below_drewN {B : Nat} {w w' : World} (h : Below B w w') (q : Nat) : Below B w (w'.drewN q) := ⟨h.1, h.2, h.3, h.4, h.5⟩
theorem ptr_parts (T : TypeId) (hT : okT T) : ∃ te i j, Try.prog.underlying T = some (.pointer te) ∧ Try.prog.info? T = some i ∧ i.comparable = true ∧ Try.prog.info? te = some j ∧ j.size ≠ 0 := by
  have key : ∀ (T te : TypeId), Try.prog.underlying T = some (.pointer te) → (Try.prog.info? T).map (·.comparable) = some true → ((Try.prog.info? te).map fun j => decide (j.size ≠ 0)) = some true → ∃ te i j, Try.prog.underlying T = some (.pointer te) ∧ Try.prog.info? T = some i ∧ i.comparable = true ∧ Try.prog.info? te = some j ∧ j.size ≠ 0 := by
    intro T te h1 h2 h3
    cases hi : Try.prog.info? T with
    | none => rw [hi] at h2; cases h2
    | some i =>
      cases hj : Try.prog.info? te with
      | none => rw [hj] at h3; cases h3
      | some j => rw [hi] at h2; rw [hj] at h3; simp at h2 h3; exact ⟨te, i, j, h1, rfl, h2, hj, h3⟩
  rcases hT with rfl | rfl | rfl
  · exact key _ _ Try.underlying44 (by kernel_rfl) (by kernel_rfl)
  · exact key _ _ Try.underlying46 (by kernel_rfl) (by kernel_rfl)
  · exact key _ _ Try.underlying39 (by kernel_rfl) (by kernel_rfl)
theorem eqE_same (w : World) (T : TypeId) (g : Nat) (hT : okT T) (d : Nat) : (Op.equalIn (d + 2) 30 (.iface T (ptr g)) (.iface T (ptr g))).run Try.prog w = .ok true w := by
  obtain ⟨te, i, j, h1, h2, h3, h4, h5⟩ := ptr_parts T hT
  exact run_equalIn_iface_ptr_same w d _ Try.underlying30 h1 h2 h3 h4
theorem eqE_other (w : World) (T T' : TypeId) (g g' : Nat) (t t' : TypeId) (cs cs' : Array Value) (hT : okT T) (hT' : okT T') (hg : Bk w g t cs) (hg' : Bk w g' t' cs') (hne : g ≠ g') (d : Nat) : (Op.equalIn (d + 2) 30 (.iface T (ptr g)) (.iface T' (ptr g'))).run Try.prog w = .ok false w := by
  obtain ⟨te, i, j, h1, h2, h3, h4, h5⟩ := ptr_parts T hT
  by_cases e : T = T'
  · subst e
    exact run_equalIn_iface_ptr_other w d Try.underlying30 h1 h2 h3 h4 h5 (by simp) hg hg'
  · simp [Op.equalIn, run_underlying Try.underlying30, e]
theorem eqX (x y : Value) (l l' : Int) (w : World) (b : Bool) (hxy : ∀ d, (Op.equalIn (d + 2) 30 x y).run Try.prog w = .ok b w) : (Op.equalIn 10000 34 (.agg #[x, .int .i32 l]) (.agg #[y, .int .i32 l'])).run Try.prog w = .ok (b && l == l') w := by
  obtain ⟨f0, f1, hf, n0, t0, o0, n1, t1, o1⟩ := two_of_map fieldsX'
  obtain ⟨g0, hg, m0, u0, p0⟩ := one_of_map fieldsL'
  rw [run_equalIn_struct w 9999 34 _ _ fieldsX heldX, hf]
  have h9 := hxy 9997
  simp only [Op.eqFields, n0, n1, t0, t1, o0, o1]
  simp [part, h9]
  have h8 : (Op.equalIn 9999 32 (.agg #[.int .i32 l]) (.agg #[.int .i32 l'])).run Try.prog w = .ok (l == l') w := by
    rw [run_equalIn_struct w 9998 32 _ _ fieldsL heldL, hg]
    simp only [Op.eqFields, m0, u0, p0]
    simp [part, run_equalIn_int w 9997 21 .i32 .i32 l l' Try.underlying21]
    cases h : (l == l') <;> simp_all
  rw [h8]
  cases b <;> cases h : (l == l') <;> simp_all [Result.andThen]
structure At2 (w : World) (b : Nat) (d : Value) (l : Int) : Prop where
  c0 : w.cell? ⟨b, 0, none⟩ = some d
  c1 : w.cell? ⟨b, 1, none⟩ = some (.int .i32 l)
  f0 : w.frozen? ⟨b, 0, none⟩ = false
  f1 : w.frozen? ⟨b, 1, none⟩ = false
theorem At2.below {w w1 : World} {b B : Nat} {d : Value} {l : Int} (h : At2 w b d l) (hb : Below B w w1) (hB : b < B) : At2 w1 b d l :=
  ⟨by rw [hb.cell (p := ⟨b, 0, none⟩) hB]; exact h.c0, by rw [hb.cell (p := ⟨b, 1, none⟩) hB]; exact h.c1, by rw [hb.frozen (p := ⟨b, 0, none⟩) hB]; exact h.f0, by rw [hb.frozen (p := ⟨b, 1, none⟩) hB]; exact h.f1⟩
/-- The function on the left operand leaves it, and says that it is no string. -/
def LeftNo (w : World) (T : TypeId) (g : Nat) (l : Int) : Prop := ∀ w1, Below w.heap.size w w1 → Calls Try.prog 8 #[.agg #[.iface T (ptr g), .int .i32 l]] w1 fun e w' => e = .returned (.tuple #[.agg #[.iface T (ptr g), .int .i32 l], .bool false]) ∧ Below w1.heap.size w1 w'
def Yes (P : Value → Int → World → Prop) (w1 : World) (e : Ending) (w' : World) : Prop := ∃ T g l t cs, e = .returned (.tuple #[.agg #[.iface T (ptr g), .int .i32 l], .bool true]) ∧ w1.heap.size ≤ g ∧ Bk w' g t cs ∧ okT T ∧ P (.iface T (ptr g)) l w' ∧ Below w1.heap.size w1 w'
/-- The function makes of the left operand a string's chain, of which P holds. -/
def LeftYes (w : World) (T : TypeId) (g : Nat) (l : Int) (P : Value → Int → World → Prop) : Prop := ∀ w1, Below w.heap.size w w1 → Calls Try.prog 8 #[.agg #[.iface T (ptr g), .int .i32 l]] w1 (Yes P w1)
def Same (w : World) (v : Value) (e : Ending) (w' : World) : Prop := e = .returned v ∧ Below w.heap.size w w'
theorem two_boxes {w w1 : World} {d : Value} {l : Int} (hb : Below (w.heap.size + 1 + 1) ((w.alloc (.cells #[d, .int .i32 l] 34)).alloc (.cells #[.nilIface, .int .i32 0] 34)) w1) : At2 w1 w.heap.size d l ∧ At2 w1 (w.heap.size + 1) .nilIface 0 ∧ w.heap.size + 1 < w1.heap.size ∧ Below w.heap.size w w1 ∧ Bk w1 w.heap.size 34 #[d, .int .i32 l] ∧ Bk w1 (w.heap.size + 1) 34 #[.nilIface, .int .i32 0] :=
  ⟨At2.below (by constructor <;> simp [go_sem]) hb (by omega), At2.below (by constructor <;> simp [go_sem]) hb (by omega), by have := hb.size; simp at this; omega, (((Below.refl _ _).alloc (Nat.le_refl _) _).alloc (by simp) _).trans (hb.mono (by omega)), ((Bk.new _ _ _).alloc _).below hb (by omega), (Bk.new' _ _ _ _ (by simp)).below hb (by omega)⟩
theorem guardIn (T T' : TypeId) (v v' : Value) (l l' : Int) (w : World) (d : Nat) : (Op.eqGuardIn (d + 3) 34 (.agg #[.iface T v, .int .i32 l]) (.agg #[.iface T' v', .int .i32 l'])).run Try.prog w = .ok false w := by
  obtain ⟨f0, f1, hf, n0, t0, o0, n1, t1, o1⟩ := two_of_map fieldsX'
  obtain ⟨g0, hg, m0, u0, p0⟩ := one_of_map fieldsL'
  have hE : ∀ d, (Op.eqGuardIn (d + 1) 30 (.iface T v) (.iface T' v')).run Try.prog w = .ok false w := fun d => by simp [Op.eqGuardIn, run_underlying Try.underlying30]
  have hI : ∀ d, (Op.eqGuardIn (d + 1) 21 (.int .i32 l) (.int .i32 l')).run Try.prog w = .ok false w := fun d => by simp [Op.eqGuardIn, run_underlying Try.underlying21]
  have hL : (Op.eqGuardIn (d + 2) 32 (.agg #[.int .i32 l]) (.agg #[.int .i32 l'])).run Try.prog w = .ok false w := by
    unfold Op.eqGuardIn
    simp only [Sem.run_bind, run_underlying fieldsL, Result.andThen_ok]
    rw [← Array.forIn_toList, hg]
    simp [m0, u0, p0, part, hI]
  unfold Op.eqGuardIn
  simp only [Sem.run_bind, run_underlying fieldsX, Result.andThen_ok]
  rw [← Array.forIn_toList, hf]
  simp [n0, t0, o0, n1, t1, o1, part, hE, hL]
theorem guardX (T T' : TypeId) (v v' : Value) (l l' : Int) (x y : Operand) (w : World) : (eqGuard .neq 34 x y (.agg #[.iface T v, .int .i32 l]) (.agg #[.iface T' v', .int .i32 l'])).run Try.prog w = .ok () w := by
  have := guardIn T T' v v' l l' w 9997
  simp [eqGuard, Op.maxDepth, this, run_program]
abbrev F : Nat := 8
/-- A new node, with a new left operand or the old one. -/
def NewB (w : World) (ln : Int) (P : Value → Int → World → Prop) (dr : Value) (lr : Int) (e : Ending) (w' : World) : Prop := ∃ g dl ll, e = .returned (.tuple #[.agg #[.iface 39 (ptr g), .int .i32 ln], .bool true]) ∧ w.heap.size ≤ g ∧ Bk w' g 43 (binCells dl ll dr lr) ∧ P dl ll w' ∧ Below w.heap.size w w'
/-- A new node, with a new, empty string on the right. -/
def NewS (w : World) (ln : Int) (dl : Value) (ll lr : Int) (e : Ending) (w' : World) : Prop := ∃ g h A c a b e' f, e = .returned (.tuple #[.agg #[.iface 39 (ptr g), .int .i32 ln], .bool true]) ∧ w.heap.size ≤ g ∧ Bk w' g 43 (binCells dl ll (.iface 46 (ptr h)) lr) ∧ Bk w' h 50 #[.slice A 0 c, a, b, e', f] ∧ Below w.heap.size w w'
def Stable (P : Value → Int → World → Prop) : Prop := ∀ d l w w', (∀ g t cs, (t = 56 ∨ t = 50 ∨ t = 43) → Bk w g t cs → Bk w' g t cs) → P d l w → P d l w'
set_option maxRecDepth 100000 in
set_option maxHeartbeats 2000000 in
theorem no_ident (w : World) (p g q : Nat) (T : TypeId) (li ln lr : Int) (hT : okT T) (hp : Bk w p 43 (binCells (.iface T (ptr g)) li (.iface 44 (ptr q)) lr)) (K : LeftNo w T g li) :
    Calls Try.prog 8 #[.agg #[.iface 39 (ptr p), .int .i32 ln]] w (Same w (.tuple #[.agg #[.iface 39 (ptr p), .int .i32 ln], .bool false])) := by
  have c0 : w.cell? ⟨p, 0, none⟩ = some (.iface T (ptr g)) := hp.cell 0
  have c1 : w.cell? ⟨p, 1, none⟩ = some (.int .i32 li) := hp.cell 1
  have c4 : w.cell? ⟨p, 4, none⟩ = some (.int .u8 11) := hp.cell 4
  have pl := hp.lt
  have HP := Lib.hid hp
  have KK := Lib.hid K
  have EE := Lib.hid fun w => eqX _ _ li li w true (eqE_same w T g hT)
  have EG := Lib.hid (guardX T T (ptr g) (ptr g) li li)
  clear hp K hT
  go_enter Try.func8, Try.ntmps8
  go_wp2_with fail
  refine (KK.out _ (((Below.refl _ _).alloc (Nat.le_refl _) _).alloc (by simp) _)).mono ?_
  rintro e w1 ⟨rfl, hb⟩
  obtain ⟨⟨a0, a1, a2, a3⟩, ⟨b0, b1, b2, b3⟩, z1, bl, bx0, bx1⟩ := two_boxes (by simpa using hb)
  have BX0 := Lib.hid bx0
  have BX1 := Lib.hid bx1
  clear bx0 bx1
  have z0 : w.heap.size < w1.heap.size := by omega
  have BL := Lib.hid bl
  have hp1 := HP.out.later bl
  have d0 : w1.cell? ⟨p, 0, none⟩ = some (.iface T (ptr g)) := hp1.cell 0
  have d1 : w1.cell? ⟨p, 1, none⟩ = some (.int .i32 li) := hp1.cell 1
  have d2 : w1.cell? ⟨p, 2, none⟩ = some (.iface 44 (ptr q)) := hp1.cell 2
  have d3 : w1.cell? ⟨p, 3, none⟩ = some (.int .i32 lr) := hp1.cell 3
  have pl1 := hp1.lt
  clear hp1 hb bl c0 c1 c4
  go_wp2_with fail
  have ee := EE.out
  have eg := EG.out
  simp only [beq_self_eq_true, Bool.and_self] at ee
  go_quiet (fail)
  clear ee eg
  go_wp2_with fail
  refine bodyPost_ret (v := .tuple #[.agg #[.iface 39 (ptr p), .int .i32 ln], .bool false]) (by simp [results, Try.results8, go_sem, *]) rfl ⟨rfl, ?_⟩
  repeat (first | exact BL.out | refine Below.setCell ?_ (by simp) _ | refine Below.alloc ?_ (by first | omega | (simp <;> omega)) _ | refine below_drewN ?_ _ | refine Below.drew ?_)
set_option maxRecDepth 100000 in
set_option maxHeartbeats 2000000 in
theorem no_str (w : World) (p g q : Nat) (T : TypeId) (li ln lr : Int) (A : Option Addr) (c : Nat) (a b e f : Value) (hT : okT T) (hp : Bk w p 43 (binCells (.iface T (ptr g)) li (.iface 46 (ptr q)) lr)) (hq : Bk w q 50 #[.slice A 0 c, a, b, e, f]) (K : LeftNo w T g li) :
    Calls Try.prog 8 #[.agg #[.iface 39 (ptr p), .int .i32 ln]] w (Same w (.tuple #[.agg #[.iface 39 (ptr p), .int .i32 ln], .bool false])) := by
  have c0 : w.cell? ⟨p, 0, none⟩ = some (.iface T (ptr g)) := hp.cell 0
  have c1 : w.cell? ⟨p, 1, none⟩ = some (.int .i32 li) := hp.cell 1
  have c4 : w.cell? ⟨p, 4, none⟩ = some (.int .u8 11) := hp.cell 4
  have pl := hp.lt
  have HP := Lib.hid hp
  have KK := Lib.hid K
  have EE := Lib.hid fun w => eqX _ _ li li w true (eqE_same w T g hT)
  have EG := Lib.hid (guardX T T (ptr g) (ptr g) li li)
  have HQ := Lib.hid hq
  clear hp K hT hq
  go_enter Try.func8, Try.ntmps8
  go_wp2_with fail
  refine (KK.out _ (((Below.refl _ _).alloc (Nat.le_refl _) _).alloc (by simp) _)).mono ?_
  rintro e w1 ⟨rfl, hb⟩
  obtain ⟨⟨a0, a1, a2, a3⟩, ⟨b0, b1, b2, b3⟩, z1, bl, bx0, bx1⟩ := two_boxes (by simpa using hb)
  have BX0 := Lib.hid bx0
  have BX1 := Lib.hid bx1
  clear bx0 bx1
  have z0 : w.heap.size < w1.heap.size := by omega
  have BL := Lib.hid bl
  have hp1 := HP.out.later bl
  have d0 : w1.cell? ⟨p, 0, none⟩ = some (.iface T (ptr g)) := hp1.cell 0
  have d1 : w1.cell? ⟨p, 1, none⟩ = some (.int .i32 li) := hp1.cell 1
  have d2 : w1.cell? ⟨p, 2, none⟩ = some (.iface 46 (ptr q)) := hp1.cell 2
  have d3 : w1.cell? ⟨p, 3, none⟩ = some (.int .i32 lr) := hp1.cell 3
  have pl1 := hp1.lt
  have hq1 := HQ.out.later bl
  have q0 : w1.cell? ⟨q, 0, none⟩ = some (.slice A 0 c) := hq1.cell 0
  have ql1 := hq1.lt
  clear hq1
  clear hp1 hb bl c0 c1 c4
  go_wp2_with fail
  have ee := EE.out
  have eg := EG.out
  simp only [beq_self_eq_true, Bool.and_self] at ee
  go_quiet (fail)
  clear ee eg
  go_wp2_with fail
  refine bodyPost_ret (v := .tuple #[.agg #[.iface 39 (ptr p), .int .i32 ln], .bool false]) (by simp [results, Try.results8, go_sem, *]) rfl ⟨rfl, ?_⟩
  repeat (first | exact BL.out | refine Below.setCell ?_ (by simp) _ | refine Below.alloc ?_ (by first | omega | (simp <;> omega)) _ | refine below_drewN ?_ _ | refine Below.drew ?_)
set_option maxRecDepth 100000 in
set_option maxHeartbeats 2000000 in
theorem no_strY (w : World) (p g q : Nat) (T : TypeId) (li ln lr : Int) (A : Option Addr) (c : Nat) (a b e f : Value) (hT : okT T) (hp : Bk w p 43 (binCells (.iface T (ptr g)) li (.iface 46 (ptr q)) lr)) (hq : Bk w q 50 #[.slice A 1 c, a, b, e, f]) (K : LeftNo w T g li) :
    Calls Try.prog 8 #[.agg #[.iface 39 (ptr p), .int .i32 ln]] w (NewS w ln (.iface T (ptr g)) li lr) := by
  have c0 : w.cell? ⟨p, 0, none⟩ = some (.iface T (ptr g)) := hp.cell 0
  have c1 : w.cell? ⟨p, 1, none⟩ = some (.int .i32 li) := hp.cell 1
  have c4 : w.cell? ⟨p, 4, none⟩ = some (.int .u8 11) := hp.cell 4
  have pl := hp.lt
  have HP := Lib.hid hp
  have KK := Lib.hid K
  have HQ := Lib.hid hq
  clear hp K hT hq
  go_enter Try.func8, Try.ntmps8
  go_wp2_with fail
  refine (KK.out _ (((Below.refl _ _).alloc (Nat.le_refl _) _).alloc (by simp) _)).mono ?_
  rintro e w1 ⟨rfl, hb⟩
  obtain ⟨⟨a0, a1, a2, a3⟩, ⟨b0, b1, b2, b3⟩, z1, bl, bx0, bx1⟩ := two_boxes (by simpa using hb)
  have BX0 := Lib.hid bx0
  have BX1 := Lib.hid bx1
  clear bx0 bx1
  have z0 : w.heap.size < w1.heap.size := by omega
  have BL := Lib.hid bl
  have hp1 := HP.out.later bl
  have d0 : w1.cell? ⟨p, 0, none⟩ = some (.iface T (ptr g)) := hp1.cell 0
  have d1 : w1.cell? ⟨p, 1, none⟩ = some (.int .i32 li) := hp1.cell 1
  have d2 : w1.cell? ⟨p, 2, none⟩ = some (.iface 46 (ptr q)) := hp1.cell 2
  have d3 : w1.cell? ⟨p, 3, none⟩ = some (.int .i32 lr) := hp1.cell 3
  have pl1 := hp1.lt
  have hq1 := HQ.out.later bl
  have q0 : w1.cell? ⟨q, 0, none⟩ = some (.slice A 1 c) := hq1.cell 0
  have ql1 := hq1.lt
  clear hq1
  clear hp1 hb bl c0 c1 c4
  go_wp2_with fail
  obtain ⟨w3, hw3⟩ : ∃ w3, w3 = w1.alloc (.cells #[.iface T (ptr g), .int .i32 li] 34) := ⟨_, rfl⟩
  rw [← hw3]
  obtain ⟨k0, k1, k2, k3⟩ : At2 w3 w.heap.size (.iface 39 (ptr p)) ln := by rw [hw3]; constructor <;> simp [go_sem, *]
  obtain ⟨r0, r1, r2, r3⟩ : At2 w3 (w.heap.size + 1) .nilIface 0 := by rw [hw3]; constructor <;> simp [go_sem, *]
  obtain ⟨s0, s1, s2, s3⟩ : At2 w3 w1.heap.size (.iface T (ptr g)) li := by rw [hw3]; constructor <;> simp [go_sem, *]
  have e3 : w3.cell? ⟨p, 3, none⟩ = some (.int .i32 lr) := by rw [hw3]; simp [go_sem, *]
  have y0 : w.heap.size < w3.heap.size := by rw [hw3]; simp; omega
  have y1 : w.heap.size + 1 < w3.heap.size := by rw [hw3]; simp; omega
  have y2 : w1.heap.size < w3.heap.size := by rw [hw3]; simp
  have y3 : p < w3.heap.size := by rw [hw3]; simp; omega
  have B3 : Hid (Below w.heap.size w w3) := by rw [hw3]; exact BL.out.alloc (by omega) _
  clear hw3 a0 a1 a2 a3 b0 b1 b2 b3 d0 d1 d2 d3
  have KP := Lib.hid (show ∀ w', Kp (w.heap.size + 1) w3 w' → w'.cell? ⟨w.heap.size, 1, none⟩ = some (.int .i32 ln) ∧ w'.cell? ⟨w1.heap.size, 0, none⟩ = some (.iface T (ptr g)) ∧ w'.cell? ⟨w1.heap.size, 1, none⟩ = some (.int .i32 li) ∧ w'.cell? ⟨p, 3, none⟩ = some (.int .i32 lr) from fun w' h => ⟨h.cell (by omega) k1, h.cell (by omega) s0, h.cell (by omega) s1, h.cell (by omega) e3⟩)
  go_region_held3 (fun w' => w'.cell? ⟨w.heap.size, 1, none⟩ = some (.int .i32 ln) ∧ w'.cell? ⟨w1.heap.size, 0, none⟩ = some (.iface T (ptr g)) ∧ w'.cell? ⟨w1.heap.size, 1, none⟩ = some (.int .i32 li) ∧ w'.cell? ⟨p, 3, none⟩ = some (.int .i32 lr)) ((refine KP.out _ ?_; (repeat (first | exact Kp.refl _ _ | refine Kp.drew ?_ | refine Kp.alloc ?_ _ | refine Kp.set ?_ _ _)))) (fail)
  go_wp2_with fail
  refine bodyPost_ret (v := .tuple #[.agg #[.iface 39 (ptr (w3.heap.size + 1)), .int .i32 ln], .bool true]) (by simp [results, Try.results8, go_sem, *]) rfl ⟨w3.heap.size + 1, w3.heap.size, none, 0, .int .i32 0, .bool false, .bool false, .bool false, rfl, by omega, (Bk.new' _ _ _ _ (by simp)).drew, ((Bk.new' _ _ _ _ (by simp)).alloc _).drew, ?_⟩
  repeat (first | exact B3.out | exact BL.out | refine Below.setCell ?_ (by first | (simp; done) | (simp <;> omega)) _ | refine Below.alloc ?_ (by first | omega | (simp <;> omega)) _ | refine below_drewN ?_ _ | refine Below.drew ?_)
set_option maxRecDepth 100000 in
set_option maxHeartbeats 2000000 in
theorem yes_str (w : World) (p g q : Nat) (T : TypeId) (li ln lr : Int) (P : Value → Int → World → Prop) (hS : Stable P) (hT : okT T) (hp : Bk w p 43 (binCells (.iface T (ptr g)) li (.iface 46 (ptr q)) lr)) (K : LeftYes w T g li P) :
    Calls Try.prog 8 #[.agg #[.iface 39 (ptr p), .int .i32 ln]] w (Yes P w) := by
  have c0 : w.cell? ⟨p, 0, none⟩ = some (.iface T (ptr g)) := hp.cell 0
  have c1 : w.cell? ⟨p, 1, none⟩ = some (.int .i32 li) := hp.cell 1
  have c4 : w.cell? ⟨p, 4, none⟩ = some (.int .u8 11) := hp.cell 4
  have pl := hp.lt
  have HP := Lib.hid hp
  have KK := Lib.hid K
  have SS := Lib.hid hS
  clear hp K hS hT
  go_enter Try.func8, Try.ntmps8
  go_wp2_with fail
  refine (KK.out _ (((Below.refl _ _).alloc (Nat.le_refl _) _).alloc (by simp) _)).mono ?_
  rintro e w1 ⟨T', g', l', t', cs', rfl, hg', hbk, hT', hP, hb⟩
  have BK := Lib.hid hbk
  have HP' := Lib.hid hP
  have HT' := Lib.hid hT'
  have gl' := hbk.lt
  simp at hg'
  clear hbk hP hT'
  obtain ⟨⟨a0, a1, a2, a3⟩, ⟨b0, b1, b2, b3⟩, z1, bl, bx0, bx1⟩ := two_boxes (by simpa using hb)
  have BX0 := Lib.hid bx0
  have BX1 := Lib.hid bx1
  clear bx0 bx1
  have z0 : w.heap.size < w1.heap.size := by omega
  have BL := Lib.hid bl
  have hp1 := HP.out.later bl
  have d0 : w1.cell? ⟨p, 0, none⟩ = some (.iface T (ptr g)) := hp1.cell 0
  have d1 : w1.cell? ⟨p, 1, none⟩ = some (.int .i32 li) := hp1.cell 1
  have d2 : w1.cell? ⟨p, 2, none⟩ = some (.iface 46 (ptr q)) := hp1.cell 2
  have d3 : w1.cell? ⟨p, 3, none⟩ = some (.int .i32 lr) := hp1.cell 3
  have pl1 := hp1.lt
  clear hp1 hb bl c0 c1 c4
  go_wp2_with fail
  refine bodyPost_ret (v := .tuple #[.agg #[.iface T' (ptr g'), .int .i32 l'], .bool true]) (by simp [results, Try.results8, go_sem, *]) rfl ⟨T', g', l', t', cs', rfl, by omega, ?_, HT'.out, ?_, ?_⟩
  · exact ((BK.out.set (by omega)).set (by omega)).alloc _
  · exact SS.out _ _ w1 _ (fun g t cs ht h => by
      have n : g ≠ w.heap.size + 1 := h.ne BX1.out (by rcases ht with h | h | h <;> subst h <;> decide)
      exact ((h.set n).set n).alloc _) HP'.out
  repeat (first | exact B3.out | exact BL.out | refine Below.setCell ?_ (by first | (simp; done) | (simp <;> omega)) _ | refine Below.alloc ?_ (by first | omega | (simp <;> omega)) _ | refine below_drewN ?_ _ | refine Below.drew ?_)
set_option maxRecDepth 100000 in
set_option maxHeartbeats 2000000 in
theorem yes_ident (w : World) (p g q : Nat) (T : TypeId) (li ln lr : Int) (tg : TypeId) (csg : Array Value) (hg : Bk w g tg csg) (P : Value → Int → World → Prop) (hS : Stable P) (hT : okT T) (hp : Bk w p 43 (binCells (.iface T (ptr g)) li (.iface 44 (ptr q)) lr)) (K : LeftYes w T g li P) :
    Calls Try.prog 8 #[.agg #[.iface 39 (ptr p), .int .i32 ln]] w (NewB w ln P (.iface 44 (ptr q)) lr) := by
  have c0 : w.cell? ⟨p, 0, none⟩ = some (.iface T (ptr g)) := hp.cell 0
  have c1 : w.cell? ⟨p, 1, none⟩ = some (.int .i32 li) := hp.cell 1
  have c4 : w.cell? ⟨p, 4, none⟩ = some (.int .u8 11) := hp.cell 4
  have pl := hp.lt
  have HP := Lib.hid hp
  have KK := Lib.hid K
  have SS := Lib.hid hS
  have HT := Lib.hid hT
  have HG := Lib.hid hg
  have gl := hg.lt
  clear hp K hS hT hg
  go_enter Try.func8, Try.ntmps8
  go_wp2_with fail
  refine (KK.out _ (((Below.refl _ _).alloc (Nat.le_refl _) _).alloc (by simp) _)).mono ?_
  rintro e w1 ⟨T', g', l', t', cs', rfl, hg', hbk, hT', hP, hb⟩
  have BK := Lib.hid hbk
  have HP' := Lib.hid hP
  have HT' := Lib.hid hT'
  have gl' := hbk.lt
  simp at hg'
  clear hbk hP hT'
  obtain ⟨⟨a0, a1, a2, a3⟩, ⟨b0, b1, b2, b3⟩, z1, bl, bx0, bx1⟩ := two_boxes (by simpa using hb)
  have BX0 := Lib.hid bx0
  have BX1 := Lib.hid bx1
  clear bx0 bx1
  have z0 : w.heap.size < w1.heap.size := by omega
  have BL := Lib.hid bl
  have hp1 := HP.out.later bl
  have d0 : w1.cell? ⟨p, 0, none⟩ = some (.iface T (ptr g)) := hp1.cell 0
  have d1 : w1.cell? ⟨p, 1, none⟩ = some (.int .i32 li) := hp1.cell 1
  have d2 : w1.cell? ⟨p, 2, none⟩ = some (.iface 44 (ptr q)) := hp1.cell 2
  have d3 : w1.cell? ⟨p, 3, none⟩ = some (.int .i32 lr) := hp1.cell 3
  have pl1 := hp1.lt
  clear hp1 hb bl c0 c1 c4
  go_wp2_with fail
  obtain ⟨w3, hw3⟩ : ∃ w3, w3 = w1.alloc (.cells #[.iface T' (ptr g'), .int .i32 l'] 34) := ⟨_, rfl⟩
  rw [← hw3]
  obtain ⟨k0, k1, k2, k3⟩ : At2 w3 w.heap.size (.iface 39 (ptr p)) ln := by rw [hw3]; constructor <;> simp [go_sem, *]
  obtain ⟨r0, r1, r2, r3⟩ : At2 w3 (w.heap.size + 1) .nilIface 0 := by rw [hw3]; constructor <;> simp [go_sem, *]
  obtain ⟨s0, s1, s2, s3⟩ : At2 w3 w1.heap.size (.iface T' (ptr g')) l' := by rw [hw3]; constructor <;> simp [go_sem, *]
  have e0 : w3.cell? ⟨p, 0, none⟩ = some (.iface T (ptr g)) := by rw [hw3]; simp [go_sem, *]
  have e1 : w3.cell? ⟨p, 1, none⟩ = some (.int .i32 li) := by rw [hw3]; simp [go_sem, *]
  have e2 : w3.cell? ⟨p, 2, none⟩ = some (.iface 44 (ptr q)) := by rw [hw3]; simp [go_sem, *]
  have e3 : w3.cell? ⟨p, 3, none⟩ = some (.int .i32 lr) := by rw [hw3]; simp [go_sem, *]
  have y0 : w.heap.size < w3.heap.size := by rw [hw3]; simp; omega
  have y1 : w.heap.size + 1 < w3.heap.size := by rw [hw3]; simp; omega
  have y2 : w1.heap.size < w3.heap.size := by rw [hw3]; simp
  have y3 : p < w3.heap.size := by rw [hw3]; simp; omega
  have y4 : g' < w3.heap.size := by rw [hw3]; simp; omega
  have B3 : Hid (Below w.heap.size w w3) := by rw [hw3]; exact BL.out.alloc (by omega) _
  have G3 : Hid (Bk w3 g tg csg) := by rw [hw3]; exact (HG.out.later BL.out).alloc _
  have N3 : Hid (Bk w3 g' t' cs') := by rw [hw3]; exact BK.out.alloc _
  have P3 : Hid (P (.iface T' (ptr g')) l' w3) := by rw [hw3]; exact SS.out _ _ w1 _ (fun g t cs ht h => h.alloc _) HP'.out
  have X0 : Hid (Bk w3 w.heap.size 34 #[.iface 39 (ptr p), .int .i32 ln]) := by rw [hw3]; exact BX0.out.alloc _
  have X1 : Hid (Bk w3 (w.heap.size + 1) 34 #[.nilIface, .int .i32 0]) := by rw [hw3]; exact BX1.out.alloc _
  clear hw3 a0 a1 a2 a3 b0 b1 b2 b3 d0 d1 d2 d3
  have ee : ∀ x, (Op.equalIn 9999 30 (.iface T' (ptr g')) (.iface T (ptr g))).run Try.prog (w3.drewN x) = .ok false (w3.drewN x) := fun x : Nat => eqE_other (w3.drewN x) T' T g' g t' tg cs' csg HT'.out HT.out (N3.out.drewN x) (G3.out.drewN x) (by omega) 9997
  have eg := guardX T' T (ptr g') (ptr g) l' li
  go_quiet (fail)
  clear ee eg
  go_wp2_with fail
  obtain ⟨w4, hw4⟩ : ∃ w4, w4 = w3.drewN nq := ⟨_, rfl⟩
  rw [← hw4]
  have z4 : w4.heap.size = w3.heap.size := by rw [hw4]; rfl
  obtain ⟨k0, k1, k2, k3⟩ : At2 w4 w.heap.size (.iface 39 (ptr p)) ln := by rw [hw4]; exact ⟨k0, k1, k2, k3⟩
  obtain ⟨r0, r1, r2, r3⟩ : At2 w4 (w.heap.size + 1) .nilIface 0 := by rw [hw4]; exact ⟨r0, r1, r2, r3⟩
  obtain ⟨s0, s1, s2, s3⟩ : At2 w4 w1.heap.size (.iface T' (ptr g')) l' := by rw [hw4]; exact ⟨s0, s1, s2, s3⟩
  have e2 : w4.cell? ⟨p, 2, none⟩ = some (.iface 44 (ptr q)) := by rw [hw4]; exact e2
  have e3 : w4.cell? ⟨p, 3, none⟩ = some (.int .i32 lr) := by rw [hw4]; exact e3
  have y0 : w.heap.size < w4.heap.size := by omega
  have y1 : w.heap.size + 1 < w4.heap.size := by omega
  have y2 : w1.heap.size < w4.heap.size := by omega
  have y3 : p < w4.heap.size := by omega
  have B4 : Hid (Below w.heap.size w w4) := by rw [hw4]; exact below_drewN B3.out _
  have P4 : Hid (P (.iface T' (ptr g')) l' w4) := by rw [hw4]; exact SS.out _ _ w3 _ (fun g t cs ht h => h.drewN _) P3.out
  have X4 : Hid (Bk w4 w.heap.size 34 #[.iface 39 (ptr p), .int .i32 ln]) := by rw [hw4]; exact X0.out
  have X5 : Hid (Bk w4 (w.heap.size + 1) 34 #[.nilIface, .int .i32 0]) := by rw [hw4]; exact X1.out
  have Z4 := Lib.hid z4
  clear hw4 z4 P3 B3 G3 N3 X0 X1
  have KP := Lib.hid (show ∀ w', Kp w.heap.size w4 w' → w'.cell? ⟨w1.heap.size, 0, none⟩ = some (.iface T' (ptr g')) ∧ w'.cell? ⟨w1.heap.size, 1, none⟩ = some (.int .i32 l') ∧ w'.cell? ⟨p, 2, none⟩ = some (.iface 44 (ptr q)) ∧ w'.cell? ⟨p, 3, none⟩ = some (.int .i32 lr) from fun w' h => ⟨h.cell (by omega) s0, h.cell (by omega) s1, h.cell (by omega) e2, h.cell (by omega) e3⟩)
  go_region_held3 (fun w' => w'.cell? ⟨w1.heap.size, 0, none⟩ = some (.iface T' (ptr g')) ∧ w'.cell? ⟨w1.heap.size, 1, none⟩ = some (.int .i32 l') ∧ w'.cell? ⟨p, 2, none⟩ = some (.iface 44 (ptr q)) ∧ w'.cell? ⟨p, 3, none⟩ = some (.int .i32 lr)) ((refine KP.out _ ?_; (repeat (first | exact Kp.refl _ _ | refine Kp.drew ?_ | refine Kp.alloc ?_ _ | refine Kp.set ?_ _ _)))) (fail)
  go_wp2_with fail
  refine bodyPost_ret (v := .tuple #[.agg #[.iface 39 (ptr w4.heap.size), .int .i32 ln], .bool true]) (by simp [results, Try.results8, go_sem, *]) rfl ⟨w4.heap.size, .iface T' (ptr g'), l', rfl, by omega, ?_, ?_, ?_⟩
  · exact (Bk.new' _ _ _ _ (by simp)).drew
  · exact SS.out _ _ w4 _ (fun g t cs ht h => by
      have n0 : g ≠ w.heap.size := h.ne X4.out (by rcases ht with h | h | h <;> subst h <;> decide)
      have n1 : g ≠ w.heap.size + 1 := h.ne X5.out (by rcases ht with h | h | h <;> subst h <;> decide)
      exact ((((h.set n0).set n1).set n1).alloc _).drew) P4.out
  repeat (first | exact B4.out | refine Below.setCell ?_ (by first | (simp; done) | (simp <;> omega)) _ | refine Below.alloc ?_ (by first | omega | (simp <;> omega)) _ | refine below_drewN ?_ _ | refine Below.drew ?_)

end Go.Proofs.Ytbmmmgccmkompad
