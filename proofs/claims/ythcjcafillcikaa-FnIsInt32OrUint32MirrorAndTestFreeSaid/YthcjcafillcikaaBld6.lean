/-
  Lemmas shared by several laws of this seat; no statement of their own.
-/
import Derived.Test.YthcjcafillcikaaRows
import Derived.WalkKit
import Derived.ProofKit
import Derived.OpenShut
import Derived.Test.YthcjcafillcikaaSlW
import Derived.Test.YthcjcafillcikaaExtW
import Derived.Test.YthcjcafillcikaaI32
import Derived.Test.YthcjcafillcikaaBld
import Derived.WalkLawsBesides
import Derived.WalkSpells
import Derived.Below
import Derived.Lib.Hide
import Derived.StillTailTactics
import Derived.Outline
namespace Go.Proofs.Ythcjcafillcikaa
open Go.ChangeShapes Go.WideShapes Go.ChangeAt Go.RowKit

set_option linter.unusedVariables false

/-- What is asked of a callee: zzBuild from index i on, in every world that keeps the codes. -/
def Does (b off n c : Nat) (cs : List Int) (mi : Bool) (i : Nat) (r : Bool × Nat) : Prop :=
  ∀ w : World, Sl w w.heap.size (some ⟨b, off, none⟩) n (cs.map (Value.int .u8)) → Calls Try.prog 8 #[.slice (some ⟨b, off, none⟩) n c, .int .i64 i, .bool mi] w (Res r w)
theorem sl_later {w w' : World} {A : Option Addr} {n : Nat} {zs : List Value} (h : Sl w w.heap.size A n zs) (hb : Below w.heap.size w w') : Sl w' w'.heap.size A n zs := (h.below hb).more hb.size
theorem un_any (b off n c : Nat) (cs : List Int) (mi : Bool) (i : Nat) (r : Bool × Nat) (x : Int) (w : World) (hs : Sl w w.heap.size (some ⟨b, off, none⟩) n (cs.map (Value.int .u8))) (hi : i < n) (hn : n ≤ 9223372036854775807) (hx : w.cell? ⟨b, off + i, none⟩ = some (.int .u8 x)) (x0 : 0 ≤ x) (x1 : x ≤ 255) (hb : b < w.heap.size) (hk : x % 8 = 6) (ih : Does b off n c cs mi (i + 1) r) :
    Calls Try.prog 8 #[.slice (some ⟨b, off, none⟩) n c, .int .i64 i, .bool mi] w (Res (false, r.2) w) := by
  have IH := Lib.hid ih
  clear ih
  have e1 : ((i + 1 : Nat) : Int) = (i : Int) + 1 := by omega
  have E1 := Lib.hid e1
  clear e1
  go_enter Try.func8, Try.ntmps8
  go_wp2_with fail
  rw [← E1.out]
  refine (IH.out _ (sl_later hs (((Below.refl _ _).alloc (Nat.le_refl _) _).alloc (by simp) _))).mono ?_
  rintro e w1 ⟨T, v, rfl, g, hb1⟩
  obtain ⟨hc, hf⟩ := bcell hb1
  have z1 : w.heap.size + 1 < w1.heap.size := by have := hb1.size; simp at this; omega
  have z0 : w.heap.size < w1.heap.size := by omega
  have c0 : w1.cell? ⟨w.heap.size, 0, none⟩ = some .nilIface := by rw [hc _ _ (by simp; omega)]; simp [go_sem]
  have c1 : w1.cell? ⟨w.heap.size, 1, none⟩ = some (.int .i32 0) := by rw [hc _ _ (by simp; omega)]; simp [go_sem]
  have d0 : w1.cell? ⟨w.heap.size + 1, 0, none⟩ = some .nilIface := by rw [hc _ _ (by simp)]; simp [go_sem]
  have d1 : w1.cell? ⟨w.heap.size + 1, 1, none⟩ = some (.int .i32 0) := by rw [hc _ _ (by simp)]; simp [go_sem]
  have f0 : w1.frozen? ⟨w.heap.size, 0, none⟩ = false := by rw [hf _ _ (by simp; omega)]; simp [go_sem]
  have f1 : w1.frozen? ⟨w.heap.size, 1, none⟩ = false := by rw [hf _ _ (by simp; omega)]; simp [go_sem]
  have h0 : w1.frozen? ⟨w.heap.size + 1, 0, none⟩ = false := by rw [hf _ _ (by simp)]; simp [go_sem]
  have h1 : w1.frozen? ⟨w.heap.size + 1, 1, none⟩ = false := by rw [hf _ _ (by simp)]; simp [go_sem]
  clear hc hf
  have bl : Below w.heap.size w w1 := (((Below.refl _ _).alloc (Nat.le_refl _) _).alloc (by simp) _).trans (hb1.mono (by simp <;> omega))
  have BL := Lib.hid bl
  clear bl g
  go_wp2_with fail
  refine bodyPost_ret (v := .tuple #[.agg #[.iface 99 (.pointer (some ⟨w1.heap.size, 0, none⟩)), .int .i32 0], .int .i64 (r.2 : Int)]) (by simp [results, Try.results8, go_sem, c0, c1, z0]) rfl ⟨_, _, rfl, val_un _ _ _, ?_⟩
  repeat (first | exact BL.out | refine Below.setCell ?_ (by simp) _ | refine Below.alloc ?_ (by simp <;> omega) _)

end Go.Proofs.Ythcjcafillcikaa
