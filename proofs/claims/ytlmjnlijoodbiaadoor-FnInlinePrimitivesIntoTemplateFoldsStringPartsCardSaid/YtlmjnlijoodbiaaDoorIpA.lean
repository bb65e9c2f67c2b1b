/-
  Rows of code units that the law has made: read, and appended to; no statement of its own.
-/
import Derived.Test.YtlmjnlijoodbiaaDoorRows
import Derived.WalkKit
import Derived.ProofKit
import Derived.OpenShut
import Derived.Test.YtlmjnlijoodbiaaDoorSlW
import Derived.Test.YtlmjnlijoodbiaaDoorIpC
import Derived.WalkLawsBesides
import Derived.WalkSpells
import Derived.Below
import Derived.Lib.Hide
import Derived.Outline
import Derived.OwnWalk
import Derived.Laws.OwnMore
import Derived.Laws.AppendOwnNone
import Derived.ArgAppend
import Derived.Maps.AppendAt
import Derived.Deep.AppendLies
import Derived.RegionTactic
import Derived.Deep.RegionLaw
namespace Go.Proofs.YtlmjnlijoodbiaaDoor
open Go.ChangeShapes Go.WideShapes Go.ChangeAt Go.RowKit

set_option linter.unusedVariables false

def u16c (us : List Int) : List Value := us.map (Value.int .u16)
theorem u16c_app (us vs : List Int) : u16c (us ++ vs) = u16c us ++ u16c vs := by unfold u16c; rw [List.map_append]
theorem u16c_len (us : List Int) : (u16c us).length = us.length := by simp [u16c]
theorem u16c_one (us : List Int) : ∀ v ∈ u16c us, v.oneCell' = true := by
  intro v hv
  unfold u16c at hv
  obtain ⟨x, _, rfl⟩ := List.mem_map.1 hv
  rfl
/-- Block g holds the cells cs, of element type t. -/
def Bk (w : World) (g : Nat) (t : TypeId) (cs : Array Value) : Prop := w.heap[g]? = some (.cells cs t (0, 0))
theorem Bk.lt {w : World} {g : Nat} {t : TypeId} {cs : Array Value} (h : Bk w g t cs) : g < w.heap.size := (Array.getElem?_eq_some_iff.1 h).1
theorem Bk.cell {w : World} {g : Nat} {t : TypeId} {cs : Array Value} (h : Bk w g t cs) (i : Nat) : w.cell? ⟨g, i, none⟩ = cs[i]? := by
  unfold Bk at h; simp [World.cell?, h]
theorem Bk.frozen {w : World} {g : Nat} {t : TypeId} {cs : Array Value} (h : Bk w g t cs) (i : Nat) : w.frozen? ⟨g, i, none⟩ = false := by
  unfold Bk at h; simp [World.frozen?, h]
theorem Bk.below {w w' : World} {B g : Nat} {t : TypeId} {cs : Array Value} (h : Bk w g t cs) (hb : Below B w w') (hg : g < B) : Bk w' g t cs := (hb.block g hg).trans h
theorem Bk.later {w w' : World} {g : Nat} {t : TypeId} {cs : Array Value} (h : Bk w g t cs) (hb : Below w.heap.size w w') : Bk w' g t cs := h.below hb h.lt
theorem Bk.ne {w : World} {g g' : Nat} {t t' : TypeId} {cs cs' : Array Value} (h : Bk w g t cs) (h' : Bk w g' t' cs') (hne : t ≠ t') : g ≠ g' := by
  rintro rfl
  unfold Bk at h h'
  rw [h] at h'
  injection h' with h'
  injection h' with _ ht
  exact hne ht
theorem Bk.new (w : World) (t : TypeId) (cs : Array Value) : Bk (w.alloc (.cells cs t)) w.heap.size t cs := by unfold Bk; show (w.heap.push _)[_]? = _; simp
theorem Bk.setSelf {w : World} {g o : Nat} {t : TypeId} {cs : Array Value} {v : Value} (h : Bk w g t cs) : Bk (w.setCell ⟨g, o, none⟩ v) g t (cs.setIfInBounds o v) := by
  unfold Bk at *; simp [World.setCell, Array.getElem?_modify, h]
theorem Bk.set {w : World} {g b o : Nat} {t : TypeId} {cs : Array Value} {v : Value} (h : Bk w g t cs) (hn : g ≠ b) : Bk (w.setCell ⟨b, o, none⟩ v) g t cs := by
  unfold Bk at *; rw [Below.heap_setCell _ _ _ _ hn]; exact h
theorem Bk.alloc {w : World} {g : Nat} {t : TypeId} {cs : Array Value} (h : Bk w g t cs) (o : Obj) : Bk (w.alloc o) g t cs := h.later ((Below.refl _ _).alloc (Nat.le_refl _) _)
/-- A row of its own: nil, or a block below B that begins with the units us. -/
def Row (w : World) (B : Nat) (v : Value) (us : List Int) : Prop :=
  (v = .slice none 0 0 ∧ us = []) ∨ ∃ g c cs, v = .slice (some ⟨g, 0, none⟩) us.length c ∧ Bk w g 49 cs ∧ g < B ∧ cs.toList.take us.length = u16c us
theorem Row.below {w w' : World} {B : Nat} {v : Value} {us : List Int} (h : Row w B v us) (hb : Below B w w') : Row w' B v us := by
  rcases h with h | ⟨g, c, cs, h1, h2, h3, h4⟩
  · exact .inl h
  · exact .inr ⟨g, c, cs, h1, h2.below hb h3, h3, h4⟩
theorem Row.more {w : World} {B B' : Nat} {v : Value} {us : List Int} (h : Row w B v us) (hB : B ≤ B') : Row w B' v us := by
  rcases h with h | ⟨g, c, cs, h1, h2, h3, h4⟩
  · exact .inl h
  · exact .inr ⟨g, c, cs, h1, h2, by omega, h4⟩
/-- A store into a block of another kind. -/
theorem Row.set {w : World} {B b o : Nat} {v u : Value} {us : List Int} {t : TypeId} {cb : Array Value} (h : Row w B v us) (hb : Bk w b t cb) (ht : t ≠ 49) : Row (w.setCell ⟨b, o, none⟩ u) B v us := by
  rcases h with h | ⟨g, c, cs, h1, h2, h3, h4⟩
  · exact .inl h
  · exact .inr ⟨g, c, cs, h1, h2.set (h2.ne hb (Ne.symm ht)), h3, h4⟩
theorem Row.alloc {w : World} {B : Nat} {v : Value} {us : List Int} (h : Row w B v us) (o : Obj) : Row (w.alloc o) B v us := by
  rcases h with h | ⟨g, c, cs, h1, h2, h3, h4⟩
  · exact .inl h
  · exact .inr ⟨g, c, cs, h1, h2.alloc o, h3, h4⟩
theorem Row.form {w : World} {B : Nat} {v : Value} {us : List Int} (h : Row w B v us) : ∃ a c, v = .slice a us.length c := by
  rcases h with ⟨rfl, rfl⟩ | ⟨g, c, cs, h1, _⟩
  · exact ⟨_, _, rfl⟩
  · exact ⟨_, _, h1⟩
theorem Row.cells {w : World} {B : Nat} {us : List Int} {g c l : Nat} (h : Row w B (.slice (some ⟨g, 0, none⟩) l c) us) : ∀ j u, (u16c us)[j]? = some u → w.cell? ⟨g, j, none⟩ = some u := by
  rcases h with ⟨h, _⟩ | ⟨g', c', cs, h1, h2, h3, h4⟩
  · simp at h
  · simp only [Value.slice.injEq, Option.some.injEq, Addr.mk.injEq, and_true] at h1
    obtain ⟨rfl, -, -⟩ := h1
    intro j u hu
    have hj : j < us.length := by rw [← u16c_len]; exact (List.getElem?_eq_some_iff.1 hu).1
    rw [h2.cell, ← Array.getElem?_toList, ← hu, ← h4, List.getElem?_take, if_pos hj]
/-- The same as the slice words have it. -/
theorem Row.sl {w : World} {B : Nat} {a : Option Addr} {l c : Nat} {us : List Int} (h : Row w B (.slice a l c) us) (hB : B ≤ w.heap.size) : Sl w w.heap.size a l (us.map (Value.int .u16)) := by
  rcases h with ⟨h, rfl⟩ | ⟨g, c', cs, h1, h2, h3, h4⟩
  · simp only [Value.slice.injEq] at h
    obtain ⟨rfl, rfl, rfl⟩ := h
    exact Sl.empty
  · have hr : Row w B (.slice (some ⟨g, 0, none⟩) us.length c') us := .inr ⟨g, c', cs, rfl, h2, h3, h4⟩
    simp only [Value.slice.injEq] at h1
    obtain ⟨rfl, rfl, rfl⟩ := h1
    refine ⟨by simp, fun _ => ⟨g, 0, rfl, by omega, fun j u hu => ?_⟩⟩
    rw [Nat.zero_add]; exact hr.cells j u hu
/-- What 'append' may be called on: a whole block filled to its end, or a row of the call's own in a block at B or behind it. -/
def Ap (w : World) (B : Nat) (v : Value) (us : List Int) : Prop :=
  (∃ g, v = .slice (some ⟨g, 0, none⟩) us.length us.length ∧ Bk w g 49 (u16c us).toArray) ∨ w.ownsRow B 49 1 v us.length (u16c us)
theorem Ap.form {w : World} {B : Nat} {v : Value} {us : List Int} (h : Ap w B v us) : ∃ a c, v = .slice a us.length c := by
  rcases h with ⟨g, h1, _⟩ | h
  · exact ⟨_, _, h1⟩
  · rcases h.2 with ⟨rfl, h0⟩ | ⟨g, cap, cur, h1, _⟩
    · rw [h0]; exact ⟨_, _, rfl⟩
    · exact ⟨_, _, h1⟩
theorem Ap.row {w : World} {B : Nat} {v : Value} {us : List Int} (h : Ap w B v us) : Row w w.heap.size v us := by
  rcases h with ⟨g, h1, h2⟩ | h
  · exact .inr ⟨g, _, _, h1, h2, h2.lt, by rw [List.take_of_length_le (by rw [u16c_len]; exact Nat.le_refl _)]⟩
  · rcases h.2 with ⟨rfl, h0⟩ | ⟨g, cap, cur, h1, _, h3, _, _, h6, h7⟩
    · exact .inl ⟨rfl, List.length_eq_zero_iff.1 h0⟩
    · rw [Nat.mul_one] at h7
      exact .inr ⟨g, cap, cur, h1, h3, (Array.getElem?_eq_some_iff.1 h3).1, h7⟩
theorem own_whole {w : World} {g : Nat} {us : List Int} (h : Bk w g 49 (u16c us).toArray) (hl : us.length ≤ maxLen) : w.ownsRow g 49 1 (.slice (some ⟨g, 0, none⟩) us.length us.length) us.length (u16c us) :=
  ⟨by rw [u16c_len, Nat.mul_one], .inr ⟨g, us.length, _, rfl, Nat.le_refl _, h, Nat.le_refl _, hl, by simp [u16c_len], by rw [Nat.mul_one, List.take_of_length_le (by rw [u16c_len]; exact Nat.le_refl _)]⟩⟩
theorem own_mono {w : World} {B B' n size : Nat} {e : TypeId} {v : Value} {xs : List Value} (h : w.ownsRow B' e size v n xs) (hB : B ≤ B') : w.ownsRow B e size v n xs := by
  refine ⟨h.1, ?_⟩
  rcases h.2 with h | ⟨g, cap, cur, h1, h2, h3⟩
  · exact .inl h
  · exact .inr ⟨g, cap, cur, h1, by omega, h3⟩
/-- Blocks of other kinds are as they were. -/
def Kp16 (w w' : World) : Prop := ∀ g t cs, t ≠ 49 → Bk w g t cs → Bk w' g t cs
theorem Kp16.refl (w : World) : Kp16 w w := fun _ _ _ _ h => h
theorem Kp16.trans {w w1 w2 : World} (h : Kp16 w w1) (h' : Kp16 w1 w2) : Kp16 w w2 := fun g t cs ht hb => h' g t cs ht (h g t cs ht hb)
/-- 'append(s, x..)' of such rows. -/
theorem own_ne16 {w : World} {B g n : Nat} {t : TypeId} {v : Value} {xs : List Value} {cs : Array Value} (h : w.ownsRow B 49 1 v n xs) (hb : Bk w g t cs) (hne : t ≠ 49) : some g ≠ v.ownBlock := by
  rcases h.2 with ⟨rfl, _⟩ | ⟨g', cap, cur, rfl, _, hg, _⟩
  · simp [Value.ownBlock]
  · intro hh
    simp [Value.ownBlock] at hh
    subst hh
    unfold Bk at hb; rw [hg] at hb; injection hb with hb; injection hb with _ hb; exact hne hb.symm
theorem run_append_ap (w : World) (ty : TypeId) (B B' : Nat) (v vx : Value) (us ys : List Int) (hv : Ap w B v us) (hr : Row w B' vx ys) (hlen : us.length + ys.length ≤ 2097152) (hB : B ≤ w.heap.size) :
    ∃ v' w', (Builtin.append_ #[22, 22] ty #[v, vx]).run Tryd.prog w = .ok v' w' ∧ Ap w' B v' (us ++ ys) ∧ Below B w w' ∧ Kp16 w w' := by
  obtain ⟨i0, hi, hz0, hz1, hz2⟩ := info_three info_u16
  have h63 : us.length + ys.length ≤ maxLen := by unfold maxLen; omega
  rcases hr with ⟨rfl, rfl⟩ | ⟨gx, cx, csx, rfl, hbx, -, htx⟩
  · rw [List.append_nil]
    rcases hv with ⟨g, rfl, hb⟩ | hown
    · exact ⟨_, w, run_append_owned_none (P := Tryd.prog) (w := w) g 22 ty 49 i0 1 Tryd.underlying22 hi _ us.length (u16c us) (own_whole hb (by unfold maxLen; omega)), .inl ⟨g, rfl, hb⟩, Below.refl _ _, Kp16.refl _⟩
    · exact ⟨_, w, run_append_owned_none (P := Tryd.prog) (w := w) B 22 ty 49 i0 1 Tryd.underlying22 hi v us.length (u16c us) hown, .inr hown, Below.refl _ _, Kp16.refl _⟩
  · have hnews : ∀ j u, (u16c ys)[j]? = some u → w.cell? (Addr.add ⟨gx, 0, none⟩ j) = some u := by
      intro j u hu
      have e1 : (⟨gx, 0, none⟩ : Addr).add j = ⟨gx, j, none⟩ := by unfold Addr.add; split <;> simp_all
      have hr' : Row w (gx + 1) (.slice (some ⟨gx, 0, none⟩) ys.length cx) ys := .inr ⟨gx, cx, csx, rfl, hbx, by omega, htx⟩
      rw [e1]; exact hr'.cells j u hu
    rcases hv with ⟨g, rfl, hb⟩ | hown
    · by_cases hy : ys = []
      · subst hy
        have h1 := run_append_room_cells (P := Tryd.prog) w 22 ty 49 i0 Tryd.underlying22 hi g 0 us.length us.length ⟨gx, 0, none⟩ 0 cx [] (by simp) (fun j u hu => by simp at hu) (fun u hu => by simp at hu) (Nat.le_refl _) (fun j hj => by simp at hj) (fun j hj => by simp at hj)
        exact ⟨_, _, h1, .inl ⟨g, by rw [List.append_nil]; rfl, by rw [List.append_nil]; exact hb⟩, Below.refl _ _, Kp16.refl _⟩
      · have hy0 : 0 < ys.length := List.length_pos_iff.2 hy
        obtain ⟨v', w', h1, h2, h3⟩ := run_append_arg_grows (P := Tryd.prog) w 22 ty 49 i0 (.int .u16 0) 1 2 Tryd.underlying22 hi hz0 hz1 hz2 rfl (by decide) ⟨g, 0, none⟩ us.length us.length (u16c us) (by rw [u16c_len, Nat.mul_one]) (fun j u hu => by
          have e1 : (⟨g, 0, none⟩ : Addr).add j = ⟨g, j, none⟩ := by unfold Addr.add; split <;> simp_all
          rw [e1, hb.cell]; simpa using hu) ⟨gx, 0, none⟩ ys.length cx (u16c ys) (by rw [u16c_len, Nat.mul_one]) hnews (by omega) h63 (by omega)
        exact ⟨v', w', h1, .inr (by rw [List.length_append, u16c_app]; exact own_mono h2 hB), (Below.refl B w).grown h3 hB (fun j hj => by cases hj), fun g' t' cs' _ hb' => (h3.block g' hb'.lt (by simp)).trans hb'⟩
    · obtain ⟨v', w', h1, h2, h3, -, -⟩ := run_append_own_at (P := Tryd.prog) w B 22 ty 49 i0 (.int .u16 0) 1 2 Tryd.underlying22 hi hz0 hz1 hz2 rfl (by decide) v us.length (u16c us) hown ⟨gx, 0, none⟩ ys.length cx (u16c ys) (by rw [u16c_len, Nat.mul_one]) hnews (u16c_one ys) h63 (by omega) hB
      exact ⟨v', w', h1, .inr (by rw [List.length_append, u16c_app]; exact h2), (Below.refl B w).grown h3 hB (fun j hj => (hown.lt j hj).1), fun g' t' cs' ht' hb' => (h3.block g' hb'.lt (own_ne16 hown hb' ht')).trans hb'⟩
theorem wp_append_ap {o : Oper} {a : Act} {K : Act → World → Prop} {Q : Exit → Act → World → Prop} {w : World} (s x : Operand)
    (ho : o.op = .call { callee := .builtin .append, args := #[s, x], argTypes := #[22, 22] })
    (B B' : Nat) (v vx : Value) (us ys : List Int) (hs : a.eval s = v) (hv : Ap w B v us) (hx : a.eval x = vx) (hr : Row w B' vx ys) (hlen : us.length + ys.length ≤ 2097152) (hB : B ≤ w.heap.size)
    (h : ∀ v' w', Ap w' B v' (us ++ ys) → Below B w w' → Kp16 w w' → K (a.put o.dst v') w') : o.wp Tryd.prog a w K Q := by
  obtain ⟨v', w', hr, h2, h3, h4⟩ := run_append_ap w o.type B B' v vx us ys hv hr hlen hB
  unfold Oper.wp execOp
  simp only [ho, resolve, invoke, builtin, Sem.run_bind, Sem.run_pure, Result.andThen_ok, List.map_toArray, List.map_cons, List.map_nil, hs, hx, hr]
  exact h v' w' h2 h3 h4
theorem wpList_append_ap {ops : Array Oper} {rest : List Oper} {o : Oper} {a : Act} {Q : Exit → Act → World → Prop} {w : World} (hgd : o.guard = none) (s x : Operand)
    (ho : o.op = .call { callee := .builtin .append, args := #[s, x], argTypes := #[22, 22] })
    (B B' : Nat) (v vx : Value) (us ys : List Int) (hs : a.eval s = v) (hv : Ap w B v us) (hx : a.eval x = vx) (hr : Row w B' vx ys) (hlen : us.length + ys.length ≤ 2097152) (hB : B ≤ w.heap.size)
    (h : ∀ v' w', Ap w' B v' (us ++ ys) → Below B w w' → Kp16 w w' → wpList Tryd.prog ops Q rest (a.put o.dst v') w') : wpList Tryd.prog ops Q (o :: rest) a w :=
  wpList_plain hgd fun _ hK => wp_append_ap s x ho B B' v vx us ys hs hv hx hr hlen hB fun v' w' h2 h3 h4 => hK _ _ (h v' w' h2 h3 h4)
theorem step_append_ap {ops : Array Oper} {o : Oper} {a : Act} {K : Act → World → Prop} {Q : Exit → Act → World → Prop} {E : Prop} {w : World} (hgd : o.guard = none) (s x : Operand)
    (ho : o.op = .call { callee := .builtin .append, args := #[s, x], argTypes := #[22, 22] })
    (B B' : Nat) (v vx : Value) (us ys : List Int) (hs : a.eval s = v) (hv : Ap w B v us) (hx : a.eval x = vx) (hr : Row w B' vx ys) (hlen : us.length + ys.length ≤ 2097152) (hB : B ≤ w.heap.size)
    (h : ∀ v' w', Ap w' B v' (us ++ ys) → Below B w w' → Kp16 w w' → K (a.put o.dst v') w') : if Region.wanted o (yielded ops a.tmps) = true then Oper.wp Tryd.prog o a w K Q else E := by
  have hw : Region.wanted o (yielded ops a.tmps) = true := by simp [Region.wanted, hgd]
  rw [if_pos hw]
  exact wp_append_ap s x ho B B' v vx us ys hs hv hx hr hlen hB h

end Go.Proofs.YtlmjnlijoodbiaaDoor
