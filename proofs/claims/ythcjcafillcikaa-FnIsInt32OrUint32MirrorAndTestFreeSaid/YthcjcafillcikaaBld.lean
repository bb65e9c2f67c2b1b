/-
  Lemmas shared by several laws of this seat; no statement of their own.
-/
import Derived.Test.YthcjcafillcikaaRows
import Derived.WalkKit
import Derived.ProofKit
import Derived.OpenShut
import Derived.Test.YthcjcafillcikaaSlW
import Derived.Test.YthcjcafillcikaaExtW
import Derived.Test.YthcjcafillcikaaI32
import Derived.WalkLawsBesides
import Derived.WalkSpells
import Derived.Below
import Derived.Lib.Hide
import Derived.StillTailTactics
import Derived.Outline
namespace Go.Proofs.Ythcjcafillcikaa
open Go.ChangeShapes Go.WideShapes Go.ChangeAt Go.RowKit

set_option linter.unusedVariables false

/-- What a code list means from index i on: (is it an int32 or uint32, the next index). Fuel first. -/
def bld (cs : List Int) : Nat → Nat → Bool × Nat
  | 0, i => (false, i)
  | f + 1, i =>
    if cs.length ≤ i then (false, i) else
    let k := (cs[i]?.getD 0) % 8
    if k = 0 then (false, i + 1)
    else if k = 4 then
      let t := bld cs f (i + 1)
      let y := bld cs f t.2
      let n := bld cs f y.2
      (y.1 && n.1, n.2)
    else if k = 6 then (false, (bld cs f (i + 1)).2)
    else
      let l := bld cs f (i + 1)
      let r := bld cs f l.2
      (if k = 1 then true else if k = 2 ∨ k = 3 then l.1 && r.1 else false, r.2)
theorem bld_le (cs : List Int) : ∀ (f i : Nat), i ≤ cs.length → i ≤ (bld cs f i).2 ∧ (bld cs f i).2 ≤ cs.length := by
  intro f
  induction f with
  | zero => intro i hi; exact ⟨Nat.le_refl _, hi⟩
  | succ f ih =>
    intro i hi
    unfold bld
    by_cases h : cs.length ≤ i
    · rw [if_pos h]; exact ⟨Nat.le_refl _, hi⟩
    · rw [if_neg h]
      have a := ih (i + 1) (by omega)
      have b := ih _ a.2
      have c := ih _ b.2
      simp only
      split
      · exact ⟨by omega, by omega⟩
      · split
        · exact ⟨by simp only; omega, c.2⟩
        · split
          · exact ⟨by simp only; omega, a.2⟩
          · exact ⟨by simp only; omega, b.2⟩
def Res (r : Bool × Nat) (w : World) (e : Ending) (w' : World) : Prop := ∃ T v, e = .returned (.tuple #[.agg #[.iface T v, .int .i32 0], .int .i64 (r.2 : Int)]) ∧ Val (fun b => b < w.heap.size) w' (.iface T v) r.1 ∧ Below w.heap.size w w'
def opc (k : Int) : Int := if k = 1 then 25 else if k = 2 then 31 else if k = 3 then 32 else if k = 7 then 30 else 11
theorem op_any (k : Int) (w : World) (h1 : 0 ≤ k) (h2 : k ≤ 7) : Calls Try.prog 19 #[.int .u8 k] w fun e w' => e = .returned (.int .u8 (opc k)) ∧ w = w' := by
  have hc : k = 0 ∨ k = 1 ∨ k = 2 ∨ k = 3 ∨ k = 4 ∨ k = 5 ∨ k = 6 ∨ k = 7 := by omega
  rcases hc with rfl | rfl | rfl | rfl | rfl | rfl | rfl | rfl
  all_goals
    go_enter Try.func19, Try.ntmps19
    go_wp2_with fail
    go_ret
    exact ⟨rfl, rfl⟩
theorem leaf_end (A : Option Addr) (n c : Nat) (i : Nat) (mi : Bool) (w : World) (hi : n ≤ i) (hn : n ≤ 9223372036854775807) (hi2 : i ≤ 9223372036854775807) :
    Calls Try.prog 8 #[.slice A n c, .int .i64 i, .bool mi] w (Res (false, i) w) := by
  have h : (n : Int) ≤ i := by omega
  go_enter Try.func8, Try.ntmps8
  go_wp2_with fail
  refine bodyPost_ret (v := .tuple #[.agg #[.iface 93 (.pointer (some ⟨w.heap.size + 1, 0, none⟩)), .int .i32 0], .int .i64 i]) (by simp [results, Try.results8, go_sem]) rfl ⟨_, _, rfl, val_num _ _ _, ?_⟩
  exact ((Below.refl _ _).alloc (Nat.le_refl _) _).alloc (by simp) _
theorem leaf_zero (b off n c : Nat) (i : Nat) (x : Int) (mi : Bool) (w : World) (hi : i < n) (hn : n ≤ 9223372036854775807) (hx : w.cell? ⟨b, off + i, none⟩ = some (.int .u8 x)) (x0 : 0 ≤ x) (x1 : x ≤ 255) (hb : b < w.heap.size) (hk : x % 8 = 0) :
    Calls Try.prog 8 #[.slice (some ⟨b, off, none⟩) n c, .int .i64 i, .bool mi] w (Res (false, i + 1) w) := by
  go_enter Try.func8, Try.ntmps8
  go_wp2_with fail
  refine bodyPost_ret (v := .tuple #[.agg #[.iface 93 (.pointer (some ⟨w.heap.size + 1, 0, none⟩)), .int .i32 0], .int .i64 ((i + 1 : Nat) : Int)]) (by simp [results, Try.results8, go_sem]) rfl ⟨_, _, rfl, val_num _ _ _, ?_⟩
  exact ((Below.refl _ _).alloc (Nat.le_refl _) _).alloc (by simp) _

end Go.Proofs.Ythcjcafillcikaa
