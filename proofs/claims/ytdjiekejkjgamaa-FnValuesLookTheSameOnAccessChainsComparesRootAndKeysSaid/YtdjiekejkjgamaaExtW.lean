/-
  Lemmas shared by several laws of this seat; no statement of their own.
-/
import Derived.Test.YtdjiekejkjgamaaRows
import Derived.WalkKit
import Derived.ProofKit
import Derived.OpenShut
import Derived.Test.YtdjiekejkjgamaaSlW
import Derived.Below
import Derived.Lib.Hide
import Derived.Deep.RegionHeld
namespace Go.Proofs.Ytdjiekejkjgamaa
open Go.ChangeShapes Go.WideShapes Go.ChangeAt Go.RowKit

set_option linter.unusedVariables false

def Ext (X : Nat → Prop) (w w1 : World) : Prop := w.heap.size ≤ w1.heap.size ∧ ∀ b o, b < w.heap.size → ¬ X b → w1.cell? ⟨b, o, none⟩ = w.cell? ⟨b, o, none⟩
theorem Ext.refl (X : Nat → Prop) (w : World) : Ext X w w := ⟨Nat.le_refl _, fun _ _ _ _ => rfl⟩
theorem Ext.trans {X : Nat → Prop} {w w1 w2 : World} (h1 : Ext X w w1) (h2 : Ext X w1 w2) : Ext X w w2 :=
  ⟨Nat.le_trans h1.1 h2.1, fun b o hb hx => by rw [h2.2 b o (Nat.lt_of_lt_of_le hb h1.1) hx, h1.2 b o hb hx]⟩
theorem Ext.mono {X Y : Nat → Prop} {w w1 : World} (h : Ext X w w1) (hxy : ∀ b, b < w.heap.size → X b → Y b) : Ext Y w w1 :=
  ⟨h.1, fun b o hb hy => h.2 b o hb (fun hx => hy (hxy b hb hx))⟩
theorem ext_of_below {X : Nat → Prop} {w w1 : World} (h : Below w.heap.size w w1) : Ext X w w1 := ⟨h.size, fun b o hb _ => (bcell h).1 b o hb⟩
theorem ext_alloc {X : Nat → Prop} (w : World) (o : Obj) : Ext X w (w.alloc o) := ext_of_below ((Below.refl _ _).alloc (Nat.le_refl _) _)
theorem ext_set {X : Nat → Prop} (w : World) (b o : Nat) (v : Value) (hx : X b) : Ext X w (w.setCell ⟨b, o, none⟩ v) :=
  ⟨by simp, fun b' o' _ hn => World.cell?_setCell_far w ⟨b, o, none⟩ ⟨b', o', none⟩ v (fun h => hn (by have e : b = b' := h; rw [← e]; exact hx))⟩

end Go.Proofs.Ytdjiekejkjgamaa
