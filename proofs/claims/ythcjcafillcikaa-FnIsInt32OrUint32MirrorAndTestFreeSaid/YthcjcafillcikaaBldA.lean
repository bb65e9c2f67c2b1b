/-
  Lemmas shared by several laws of this seat; no statement of their own.
-/
import Derived.Test.YthcjcafillcikaaRows
import Derived.WalkKit
import Derived.ProofKit
import Derived.OpenShut
import Derived.Test.YthcjcafillcikaaSlW
import Derived.Test.YthcjcafillcikaaExtW
import Derived.Test.YthcjcafillcikaaI32
import Derived.Test.YthcjcafillcikaaBld
import Derived.Test.YthcjcafillcikaaBld6
import Derived.Test.YthcjcafillcikaaBld7
import Derived.Test.YthcjcafillcikaaBld4
import Derived.WalkLawsBesides
import Derived.WalkSpells
import Derived.Below
import Derived.Lib.Hide
namespace Go.Proofs.Ythcjcafillcikaa
open Go.ChangeShapes Go.WideShapes Go.ChangeAt Go.RowKit

set_option linter.unusedVariables false

theorem opc_bin (k : Int) (l r : Bool) : binV (opc k) l r = if k = 1 then true else if k = 2 ∨ k = 3 then l && r else false := by
  unfold opc binV
  by_cases h1 : k = 1
  · simp [h1]
  · by_cases h2 : k = 2
    · simp [h2]
    · by_cases h3 : k = 3
      · simp [h3]
      · by_cases h7 : k = 7
        · simp [h7]
        · simp [h1, h2, h3, h7]
theorem build_all (b off n c : Nat) (cs : List Int) (mi : Bool) (hcs : ∀ x ∈ cs, 0 ≤ x ∧ x ≤ 255) (hn : n ≤ 9223372036854775807) (hl : cs.length = n) : ∀ f i, i ≤ n → n - i < f → Does b off n c cs mi i (bld cs f i) := by
  intro f
  induction f with
  | zero => intro i hi hf; omega
  | succ f ih =>
    intro i hi hf w hs
    unfold bld
    by_cases h : cs.length ≤ i
    · rw [if_pos h]; exact leaf_end _ n c i mi w (by omega) hn (by omega)
    · rw [if_neg h]
      obtain ⟨b', off', u, hA, hb, hu, hx⟩ := hs.at_ (k := i) (by omega)
      obtain ⟨rfl, rfl⟩ : b = b' ∧ off = off' := by simpa using hA
      obtain ⟨x, hx', rfl⟩ : ∃ x, cs[i]? = some x ∧ Value.int .u8 x = u := by simpa using hu
      have hk0 : cs[i]?.getD 0 = x := by rw [hx']; rfl
      simp only [hk0]
      obtain ⟨x0, x1⟩ := hcs x (List.mem_of_getElem? hx')
      have b1 := bld_le cs f (i + 1) (by omega)
      have b2 := bld_le cs f _ b1.2
      have b3 := bld_le cs f _ b2.2
      have I1 := ih (i + 1) (by omega) (by omega)
      have I2 := ih (bld cs f (i + 1)).2 (by omega) (by omega)
      have I3 := ih (bld cs f (bld cs f (i + 1)).2).2 (by omega) (by omega)
      by_cases k0 : x % 8 = 0
      · rw [if_pos k0]; exact leaf_zero b off n c i x mi w (by omega) hn hx x0 x1 hb k0
      · rw [if_neg k0]
        by_cases k4 : x % 8 = 4
        · rw [if_pos k4]; exact if_any b off n c cs mi i _ _ _ x w hs (by omega) hn hx x0 x1 hb k4 I1 I2 I3
        · rw [if_neg k4]
          by_cases k6 : x % 8 = 6
          · rw [if_pos k6]; exact un_any b off n c cs mi i _ x w hs (by omega) hn hx x0 x1 hb k6 I1
          · rw [if_neg k6, ← opc_bin]
            exact bin_any b off n c cs mi i _ _ x w hs (by omega) hn hx x0 x1 hb (by simpa using k0) (by simpa using k4) (by simpa using k6) I1 I2
theorem build_any (A : Option Addr) (n c : Nat) (cs : List Int) (mi : Bool) (w : World) (hcs : ∀ x ∈ cs, 0 ≤ x ∧ x ≤ 255) (hn : n ≤ 9223372036854775807) (hs : Sl w w.heap.size A n (cs.map (Value.int .u8))) :
    Calls Try.prog 8 #[.slice A n c, .int .i64 0, .bool mi] w (Res (bld cs (n + 1) 0) w) := by
  have hl : cs.length = n := by have := hs.1; simpa using this
  by_cases h0 : n = 0
  · have := leaf_end A n c 0 mi w (by omega) hn (by omega)
    have e : bld cs (n + 1) 0 = (false, 0) := by unfold bld; rw [if_pos (by omega)]
    rw [e]; exact this
  · obtain ⟨b, off, rfl, _⟩ := hs.2 (by omega)
    exact build_all b off n c cs mi hcs hn hl (n + 1) 0 (by omega) (by omega) w hs
theorem is_any (X : Nat → Prop) (w : World) (T : TypeId) (v : Value) (r : Bool) (h : Val X w (.iface T v) r) :
    Calls Try.prog 9 #[.iface T v] w fun e w' => e = .returned (.bool r) ∧ w = w' := by
  have K := Lib.hid (h w (Ext.refl _ _))
  clear h
  go_enter Try.func9, Try.ntmps9
  go_wp2_with fail
  refine K.out.mono ?_
  rintro e w2 ⟨rfl, rfl⟩
  go_wp2_with fail
  go_ret
  exact ⟨rfl, rfl⟩

end Go.Proofs.Ythcjcafillcikaa
