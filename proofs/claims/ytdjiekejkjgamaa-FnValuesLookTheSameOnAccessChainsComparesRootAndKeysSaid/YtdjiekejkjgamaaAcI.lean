/-
  Lemmas shared by several laws of this seat; no statement of their own.
-/
import Derived.Test.YtdjiekejkjgamaaRows
import Derived.WalkKit
import Derived.ProofKit
import Derived.OpenShut
import Derived.Test.YtdjiekejkjgamaaSlW
import Derived.Test.YtdjiekejkjgamaaAcU
import Derived.Test.YtdjiekejkjgamaaAcR
import Derived.Test.YtdjiekejkjgamaaAcV
import Derived.WalkLawsBesides
import Derived.WalkSpells
import Derived.Below
import Derived.Lib.Hide
namespace Go.Proofs.Ytdjiekejkjgamaa
open Go.ChangeShapes Go.WideShapes Go.ChangeAt Go.RowKit

set_option linter.unusedVariables false

/-- The units of a name: one a byte. -/
def units (s : ByteArray) : List Int := s.toList.map fun b => (b.toNat : Int)
/-- d is the chain of the steps ss (the outermost first) over the identifier r; none of its blocks is in X. -/
def Rep (X : Nat → Prop) (w : World) (r : Int) : List (Int × ByteArray) → Value → Prop
  | [], d => ∃ p, d = .iface 40 (.pointer (some ⟨p, 0, none⟩)) ∧ (p < w.heap.size ∧ ¬ X p) ∧ w.cell? ⟨p, 0, none⟩ = some (.int .u32 0) ∧ w.cell? ⟨p, 1, none⟩ = some (.int .u32 r)
  | s :: ss, d =>
    (s.1 = 0 ∧ ∃ p e, d = .iface 46 (.pointer (some ⟨p, 0, none⟩)) ∧ (p < w.heap.size ∧ ¬ X p) ∧ DotAt w p e s.2 ∧ Rep X w r ss e) ∨
    (s.1 = 1 ∧ ∃ p e i b c, d = .iface 50 (.pointer (some ⟨p, 0, none⟩)) ∧ (p < w.heap.size ∧ ¬ X p) ∧ (i < w.heap.size ∧ ¬ X i) ∧ (b < w.heap.size ∧ ¬ X b) ∧ IdxAt w p e (.iface 54 (.pointer (some ⟨i, 0, none⟩))) ∧ w.cell? ⟨i, 0, none⟩ = some (.slice (some ⟨b, 0, none⟩) (units s.2).length c) ∧ (units s.2).length ≤ big20 ∧ (∀ j u, ((units s.2).map (Value.int .u16))[j]? = some u → w.cell? ⟨b, 0 + j, none⟩ = some u) ∧ Rep X w r ss e) ∨
    (s.1 = 2 ∧ ∃ p e, d = .iface 51 (.pointer (some ⟨p, 0, none⟩)) ∧ (p < w.heap.size ∧ ¬ X p) ∧ CallAt w p e ∧ Rep X w r ss e)
theorem DotAt.keep {w w1 : World} {p : Nat} {d : Value} {a : ByteArray} (h : DotAt w p d a) (hc : ∀ o, w1.cell? ⟨p, o, none⟩ = w.cell? ⟨p, o, none⟩) : DotAt w1 p d a :=
  ⟨by rw [hc]; exact h.c0, by rw [hc]; exact h.c2, by rw [hc]; exact h.c4, by rw [hc]; exact h.c5, by rw [hc]; exact h.c6, by rw [hc]; exact h.c7⟩
theorem IdxAt.keep {w w1 : World} {p : Nat} {d i : Value} (h : IdxAt w p d i) (hc : ∀ o, w1.cell? ⟨p, o, none⟩ = w.cell? ⟨p, o, none⟩) : IdxAt w1 p d i :=
  ⟨by rw [hc]; exact h.c0, by rw [hc]; exact h.c2, by rw [hc]; exact h.c5, by rw [hc]; exact h.c6, by rw [hc]; exact h.c7, by rw [hc]; exact h.c8⟩
theorem CallAt.keep {w w1 : World} {p : Nat} {d : Value} (h : CallAt w p d) (hc : ∀ o, w1.cell? ⟨p, o, none⟩ = w.cell? ⟨p, o, none⟩) : CallAt w1 p d :=
  ⟨by rw [hc]; exact h.c0, by rw [hc]; exact h.c2, by rw [hc]; exact h.c4, by rw [hc]; exact h.c5, by rw [hc]; exact h.c7⟩
theorem Rep.keep {X Y : Nat → Prop} {w w1 : World} {r : Int} (hs : w.heap.size ≤ w1.heap.size) (hc : ∀ b o, b < w.heap.size → ¬ X b → w1.cell? ⟨b, o, none⟩ = w.cell? ⟨b, o, none⟩) (hy : ∀ b, b < w.heap.size → Y b → X b) : ∀ {ss : List (Int × ByteArray)} {d : Value}, Rep X w r ss d → Rep Y w1 r ss d
  | [], _, ⟨p, e, h1, h2, h3⟩ => ⟨p, e, ⟨by omega, fun h => h1.2 (hy _ h1.1 h)⟩, by rw [hc _ _ h1.1 h1.2]; exact h2, by rw [hc _ _ h1.1 h1.2]; exact h3⟩
  | _ :: _, _, .inl ⟨hk, p, e, h1, h2, h3, h4⟩ => .inl ⟨hk, p, e, h1, ⟨by omega, fun h => h2.2 (hy _ h2.1 h)⟩, h3.keep fun o => hc _ _ h2.1 h2.2, Rep.keep hs hc hy h4⟩
  | _ :: _, _, .inr (.inl ⟨hk, p, e, i, b, c, h1, h2, h3, h4, h5, h6, h7, h8, h9⟩) => .inr (.inl ⟨hk, p, e, i, b, c, h1, ⟨by omega, fun h => h2.2 (hy _ h2.1 h)⟩, ⟨by omega, fun h => h3.2 (hy _ h3.1 h)⟩, ⟨by omega, fun h => h4.2 (hy _ h4.1 h)⟩, h5.keep fun o => hc _ _ h2.1 h2.2, by rw [hc _ _ h3.1 h3.2]; exact h6, h7, fun j u hu => by rw [hc _ _ h4.1 h4.2]; exact h8 j u hu, Rep.keep hs hc hy h9⟩)
  | _ :: _, _, .inr (.inr ⟨hk, p, e, h1, h2, h3, h4⟩) => .inr (.inr ⟨hk, p, e, h1, ⟨by omega, fun h => h2.2 (hy _ h2.1 h)⟩, h3.keep fun o => hc _ _ h2.1 h2.2, Rep.keep hs hc hy h4⟩)
theorem Rep.later {X : Nat → Prop} {w w1 : World} {r : Int} {ss : List (Int × ByteArray)} {d : Value} (h : Rep X w r ss d) (hb : Below w.heap.size w w1) : Rep X w1 r ss d := Rep.keep hb.size (fun b o h _ => (bcell hb).1 b o h) (fun _ _ h => h) h
theorem Rep.drewN {X : Nat → Prop} {w : World} {r : Int} {ss : List (Int × ByteArray)} {d : Value} (h : Rep X w r ss d) (x : Nat) : Rep X (w.drewN x) r ss d := Rep.keep (w := w) (w1 := w.drewN x) (Nat.le_refl _) (fun _ _ _ _ => rfl) (fun _ _ h => h) h
def stepEq (a b : Int × ByteArray) : Bool := a.1 == b.1 && (a.1 == 2 || a.2.toList == b.2.toList)
def eqs : List (Int × ByteArray) → List (Int × ByteArray) → Bool
  | [], [] => true
  | a :: xs, b :: ys => stepEq a b && eqs xs ys
  | _, _ => false
theorem units_eq (a b : ByteArray) : decide (units a = units b) = (a.toList == b.toList) := by
  have : units a = units b ↔ a.toList = b.toList := by
    unfold units
    constructor
    · intro h
      exact List.map_inj_right (f := fun b : UInt8 => (b.toNat : Int)) (fun x y e => UInt8.toNat_inj.1 (Int.ofNat.inj e)) |>.1 h
    · intro h; rw [h]
  rw [Bool.eq_iff_iff]; simp [this]
theorem vl_any (X Y : Nat → Prop) (ra rb : Int) : ∀ (sa sb : List (Int × ByteArray)) (d e : Value) (w : World), Rep X w ra sa d → Rep Y w rb sb e → Calls Try.prog 10 #[d, e] w (Quiet (.bool (eqs sa sb && ra == rb)) w) := by
  intro sa
  induction sa with
  | nil =>
    intro sb d e w ha hb
    obtain ⟨p, rfl, hp, p0, p1⟩ := ha
    cases sb with
    | nil =>
      obtain ⟨q, rfl, hq, q0, q1⟩ := hb
      have := vl_id p q ra rb w p0 p1 q0 q1
      simpa [eqs] using this
    | cons b ys =>
      have e0 : (eqs [] (b :: ys) && ra == rb) = false := by simp [eqs]
      rw [e0]
      rcases hb with ⟨_, q, f, rfl, _⟩ | ⟨_, q, f, i, A, c, rfl, _⟩ | ⟨_, q, f, rfl, _⟩
      · exact vl_id_other _ _ _ w (by decide) (by decide)
      · exact vl_id_other _ _ _ w (by decide) (by decide)
      · exact vl_id_other _ _ _ w (by decide) (by decide)
  | cons a xs ih =>
    intro sb d e w ha hb
    cases sb with
    | nil =>
      have e0 : (eqs (a :: xs) [] && ra == rb) = false := by simp [eqs]
      rw [e0]
      obtain ⟨q, rfl, hq, q0, q1⟩ := hb
      rcases ha with ⟨_, p, f, rfl, _⟩ | ⟨_, p, f, i, A, c, rfl, _⟩ | ⟨_, p, f, rfl, _⟩
      · exact vl_dot_other _ _ _ w (by decide) (by decide)
      · exact vl_idx_other _ _ _ w (by decide) (by decide)
      · exact vl_call_other _ _ _ w (by decide) (by decide)
    | cons b ys =>
      rcases ha with ⟨ka, p, f, rfl, hp, pa, fa⟩ | ⟨ka, p, f, i, A, c, rfl, hp, hi, hA, pa, pi, pn, ps, fa⟩ | ⟨ka, p, f, rfl, hp, pa, fa⟩
      · rcases hb with ⟨kb, q, g, rfl, hq, qa, ga⟩ | ⟨kb, q, g, j, B, c', rfl, hq, hj, hB, qa, qj, qn, qs, ga⟩ | ⟨kb, q, g, rfl, hq, qa, ga⟩
        · have := vl_dot p q f g a.2 b.2 (eqs xs ys && ra == rb) w pa qa (fun x => ih ys f g (w.drewN x) (fa.drewN x) (ga.drewN x))
          have e1 : (eqs (a :: xs) (b :: ys) && ra == rb) = ((a.2.toList == b.2.toList) && (eqs xs ys && ra == rb)) := by simp [eqs, stepEq, ka, kb, Bool.and_assoc]
          rw [e1]; exact this
        · have e1 : (eqs (a :: xs) (b :: ys) && ra == rb) = false := by simp [eqs, stepEq, ka, kb]
          rw [e1]; exact vl_dot_other _ _ _ w (by decide) (by decide)
        · have e1 : (eqs (a :: xs) (b :: ys) && ra == rb) = false := by simp [eqs, stepEq, ka, kb]
          rw [e1]; exact vl_dot_other _ _ _ w (by decide) (by decide)
      · rcases hb with ⟨kb, q, g, rfl, hq, qa, ga⟩ | ⟨kb, q, g, j, B, c', rfl, hq, hj, hB, qa, qj, qn, qs, ga⟩ | ⟨kb, q, g, rfl, hq, qa, ga⟩
        · have e1 : (eqs (a :: xs) (b :: ys) && ra == rb) = false := by simp [eqs, stepEq, ka, kb]
          rw [e1]; exact vl_idx_other _ _ _ w (by decide) (by decide)
        · have := vl_idx p q i j f g (eqs xs ys && ra == rb) (decide (units a.2 = units b.2)) w pa qa (fun x => ih ys f g (w.drewN x) (fa.drewN x) (ga.drewN x)) (fun x => vl_str i j (some ⟨A, 0, none⟩) (some ⟨B, 0, none⟩) _ _ c c' (units a.2) (units b.2) (w.drewN x) pi qj ⟨by simp, fun _ => ⟨A, 0, rfl, hA.1, ps⟩⟩ ⟨by simp, fun _ => ⟨B, 0, rfl, hB.1, qs⟩⟩ (by have := big20_le pn; omega) (by have := big20_le qn; omega))
          have e1 : (eqs (a :: xs) (b :: ys) && ra == rb) = (decide (units a.2 = units b.2) && (eqs xs ys && ra == rb)) := by rw [units_eq]; simp [eqs, stepEq, ka, kb, Bool.and_assoc]
          rw [e1]; exact this
        · have e1 : (eqs (a :: xs) (b :: ys) && ra == rb) = false := by simp [eqs, stepEq, ka, kb]
          rw [e1]; exact vl_idx_other _ _ _ w (by decide) (by decide)
      · rcases hb with ⟨kb, q, g, rfl, hq, qa, ga⟩ | ⟨kb, q, g, j, B, c', rfl, hq, hj, hB, qa, qj, qn, qs, ga⟩ | ⟨kb, q, g, rfl, hq, qa, ga⟩
        · have e1 : (eqs (a :: xs) (b :: ys) && ra == rb) = false := by simp [eqs, stepEq, ka, kb]
          rw [e1]; exact vl_call_other _ _ _ w (by decide) (by decide)
        · have e1 : (eqs (a :: xs) (b :: ys) && ra == rb) = false := by simp [eqs, stepEq, ka, kb]
          rw [e1]; exact vl_call_other _ _ _ w (by decide) (by decide)
        · have := vl_call p q f g (eqs xs ys && ra == rb) w pa qa (fun x => ih ys f g (w.drewN x) (fa.drewN x) (ga.drewN x))
          have e1 : (eqs (a :: xs) (b :: ys) && ra == rb) = (eqs xs ys && ra == rb) := by simp [eqs, stepEq, ka, kb]
          rw [e1]; exact this

end Go.Proofs.Ytdjiekejkjgamaa
