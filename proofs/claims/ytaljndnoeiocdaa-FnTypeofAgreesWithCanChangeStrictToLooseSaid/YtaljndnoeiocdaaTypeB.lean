/-
  Lemmas shared by several laws of this seat; no statement of their own.
-/
import Derived.Test.YtaljndnoeiocdaaRows
import Derived.WalkKit
import Derived.ProofKit
import Derived.OpenShut
import Derived.Test.YtaljndnoeiocdaaLeafA
import Derived.Outline
import Derived.Lib.Hide
import Derived.Deep.RegionHeld
namespace Go.Proofs.Ytaljndnoeiocdaa
open Go.ChangeShapes Go.WideShapes Go.ChangeAt Go.RowKit

set_option linter.unusedVariables false

def tname (k : Int) : ByteArray := if k = 0 then ⟨#[111, 98, 106, 101, 99, 116]⟩ else if k = 1 then ⟨#[117, 110, 100, 101, 102, 105, 110, 101, 100]⟩ else if k = 2 then ⟨#[98, 111, 111, 108, 101, 97, 110]⟩ else if k = 3 then ⟨#[110, 117, 109, 98, 101, 114]⟩ else if k = 4 then ⟨#[115, 116, 114, 105, 110, 103]⟩ else if k = 5 then ⟨#[98, 105, 103, 105, 110, 116]⟩ else if k = 6 then ⟨#[]⟩ else if k = 7 then ⟨#[]⟩ else if k = 8 then ⟨#[102, 117, 110, 99, 116, 105, 111, 110]⟩ else if k = 9 then ⟨#[102, 117, 110, 99, 116, 105, 111, 110]⟩ else ⟨#[]⟩
def tok (k : Int) : Bool := if k = 0 then true else if k = 1 then true else if k = 2 then true else if k = 3 then true else if k = 4 then true else if k = 5 then true else if k = 6 then false else if k = 7 then false else if k = 8 then true else if k = 9 then true else false
theorem bigT (k : Int) (h : 10 ≤ k) : tname k = ⟨#[]⟩ ∧ tok k = false := by
  unfold tname tok
  repeat rw [if_neg (by omega)]
  exact ⟨rfl, rfl⟩
theorem factT0 : tname 0 = ⟨#[111, 98, 106, 101, 99, 116]⟩ ∧ tok 0 = true := ⟨rfl, rfl⟩
theorem factT1 : tname 1 = ⟨#[117, 110, 100, 101, 102, 105, 110, 101, 100]⟩ ∧ tok 1 = true := ⟨rfl, rfl⟩
theorem factT2 : tname 2 = ⟨#[98, 111, 111, 108, 101, 97, 110]⟩ ∧ tok 2 = true := ⟨rfl, rfl⟩
theorem factT3 : tname 3 = ⟨#[110, 117, 109, 98, 101, 114]⟩ ∧ tok 3 = true := ⟨rfl, rfl⟩
theorem factT4 : tname 4 = ⟨#[115, 116, 114, 105, 110, 103]⟩ ∧ tok 4 = true := ⟨rfl, rfl⟩
theorem factT5 : tname 5 = ⟨#[98, 105, 103, 105, 110, 116]⟩ ∧ tok 5 = true := ⟨rfl, rfl⟩
theorem factT6 : tname 6 = ⟨#[]⟩ ∧ tok 6 = false := ⟨rfl, rfl⟩
theorem factT7 : tname 7 = ⟨#[]⟩ ∧ tok 7 = false := ⟨rfl, rfl⟩
theorem factT8 : tname 8 = ⟨#[102, 117, 110, 99, 116, 105, 111, 110]⟩ ∧ tok 8 = true := ⟨rfl, rfl⟩
theorem factT9 : tname 9 = ⟨#[102, 117, 110, 99, 116, 105, 111, 110]⟩ ∧ tok 9 = true := ⟨rfl, rfl⟩
set_option maxRecDepth 100000 in
theorem typ0 (v : Value) (w : World) : Calls Try.prog 11 #[.iface 61 v] w fun e w' => e = .returned (.tuple #[.string ⟨#[111, 98, 106, 101, 99, 116]⟩, .bool true]) ∧ w = w' := by
  go_enter Try.func11, Try.ntmps11
  go_wp2_with fail
  go_ret2
  exact ⟨rfl, rfl⟩
set_option maxRecDepth 100000 in
theorem typ1 (v : Value) (w : World) : Calls Try.prog 11 #[.iface 64 v] w fun e w' => e = .returned (.tuple #[.string ⟨#[117, 110, 100, 101, 102, 105, 110, 101, 100]⟩, .bool true]) ∧ w = w' := by
  go_enter Try.func11, Try.ntmps11
  go_wp2_with fail
  go_ret2
  exact ⟨rfl, rfl⟩
set_option maxRecDepth 100000 in
theorem typ2 (v : Value) (w : World) : Calls Try.prog 11 #[.iface 66 v] w fun e w' => e = .returned (.tuple #[.string ⟨#[98, 111, 111, 108, 101, 97, 110]⟩, .bool true]) ∧ w = w' := by
  go_enter Try.func11, Try.ntmps11
  go_wp2_with fail
  go_ret2
  exact ⟨rfl, rfl⟩
set_option maxRecDepth 100000 in
theorem typ3 (v : Value) (w : World) : Calls Try.prog 11 #[.iface 42 v] w fun e w' => e = .returned (.tuple #[.string ⟨#[110, 117, 109, 98, 101, 114]⟩, .bool true]) ∧ w = w' := by
  go_enter Try.func11, Try.ntmps11
  go_wp2_with fail
  go_ret2
  exact ⟨rfl, rfl⟩
set_option maxRecDepth 100000 in
theorem typ4 (v : Value) (w : World) : Calls Try.prog 11 #[.iface 69 v] w fun e w' => e = .returned (.tuple #[.string ⟨#[115, 116, 114, 105, 110, 103]⟩, .bool true]) ∧ w = w' := by
  go_enter Try.func11, Try.ntmps11
  go_wp2_with fail
  go_ret2
  exact ⟨rfl, rfl⟩
set_option maxRecDepth 100000 in
theorem typ5 (v : Value) (w : World) : Calls Try.prog 11 #[.iface 74 v] w fun e w' => e = .returned (.tuple #[.string ⟨#[98, 105, 103, 105, 110, 116]⟩, .bool true]) ∧ w = w' := by
  go_enter Try.func11, Try.ntmps11
  go_wp2_with fail
  go_ret2
  exact ⟨rfl, rfl⟩
set_option maxRecDepth 100000 in
theorem typ6 (v : Value) (w : World) : Calls Try.prog 11 #[.iface 77 v] w fun e w' => e = .returned (.tuple #[.string ⟨#[]⟩, .bool false]) ∧ w = w' := by
  go_enter Try.func11, Try.ntmps11
  go_wp2_with fail
  go_ret2
  exact ⟨rfl, rfl⟩
set_option maxRecDepth 100000 in
theorem typ7 (v : Value) (w : World) : Calls Try.prog 11 #[.iface 83 v] w fun e w' => e = .returned (.tuple #[.string ⟨#[]⟩, .bool false]) ∧ w = w' := by
  go_enter Try.func11, Try.ntmps11
  go_wp2_with fail
  go_ret2
  exact ⟨rfl, rfl⟩
set_option maxRecDepth 100000 in
theorem typ8 (v : Value) (w : World) : Calls Try.prog 11 #[.iface 85 v] w fun e w' => e = .returned (.tuple #[.string ⟨#[102, 117, 110, 99, 116, 105, 111, 110]⟩, .bool true]) ∧ w = w' := by
  go_enter Try.func11, Try.ntmps11
  go_wp2_with fail
  go_ret2
  exact ⟨rfl, rfl⟩
set_option maxRecDepth 100000 in
theorem typ9 (v : Value) (w : World) : Calls Try.prog 11 #[.iface 97 v] w fun e w' => e = .returned (.tuple #[.string ⟨#[102, 117, 110, 99, 116, 105, 111, 110]⟩, .bool true]) ∧ w = w' := by
  go_enter Try.func11, Try.ntmps11
  go_wp2_with fail
  go_ret2
  exact ⟨rfl, rfl⟩
set_option maxRecDepth 100000 in
theorem typ10 (v : Value) (w : World) : Calls Try.prog 11 #[.iface 100 v] w fun e w' => e = .returned (.tuple #[.string ⟨#[]⟩, .bool false]) ∧ w = w' := by
  go_enter Try.func11, Try.ntmps11
  go_wp2_with fail
  go_ret2
  exact ⟨rfl, rfl⟩
theorem typ_leaf (k : Int) (hk : 0 ≤ k) (v : Value) (w : World) : Calls Try.prog 11 #[.iface (ty k) v] w fun e w' => e = .returned (.tuple #[.string (tname k), .bool (tok k)]) ∧ w = w' := by
  rcases eleven k hk with rfl | rfl | rfl | rfl | rfl | rfl | rfl | rfl | rfl | rfl | h
  · rw [factT0.1, factT0.2, fact0.2]; exact typ0 v w
  · rw [factT1.1, factT1.2, fact1.2]; exact typ1 v w
  · rw [factT2.1, factT2.2, fact2.2]; exact typ2 v w
  · rw [factT3.1, factT3.2, fact3.2]; exact typ3 v w
  · rw [factT4.1, factT4.2, fact4.2]; exact typ4 v w
  · rw [factT5.1, factT5.2, fact5.2]; exact typ5 v w
  · rw [factT6.1, factT6.2, fact6.2]; exact typ6 v w
  · rw [factT7.1, factT7.2, fact7.2]; exact typ7 v w
  · rw [factT8.1, factT8.2, fact8.2]; exact typ8 v w
  · rw [factT9.1, factT9.2, fact9.2]; exact typ9 v w
  · rw [(bigT k h).1, (bigT k h).2, (big k h).2]; exact typ10 v w
def Ext (X : Nat → Prop) (w w1 : World) : Prop := w.heap.size ≤ w1.heap.size ∧ ∀ b o, b < w.heap.size → ¬ X b → w1.cell? ⟨b, o, none⟩ = w.cell? ⟨b, o, none⟩
theorem Ext.refl (X : Nat → Prop) (w : World) : Ext X w w := ⟨Nat.le_refl _, fun _ _ _ _ => rfl⟩
theorem Ext.trans {X : Nat → Prop} {w w1 w2 : World} (h1 : Ext X w w1) (h2 : Ext X w1 w2) : Ext X w w2 :=
  ⟨Nat.le_trans h1.1 h2.1, fun b o hb hx => by rw [h2.2 b o (Nat.lt_of_lt_of_le hb h1.1) hx, h1.2 b o hb hx]⟩
theorem Ext.mono {X Y : Nat → Prop} {w w1 : World} (h : Ext X w w1) (hxy : ∀ b, b < w.heap.size → X b → Y b) : Ext Y w w1 :=
  ⟨h.1, fun b o hb hy => h.2 b o hb (fun hx => hy (hxy b hb hx))⟩
theorem ext_of_below {X : Nat → Prop} {w w1 : World} (h : Below w.heap.size w w1) : Ext X w w1 := ⟨h.size, fun b o hb _ => (bcell h).1 b o hb⟩
theorem ext_alloc {X : Nat → Prop} (w : World) (o : Obj) : Ext X w (w.alloc o) := ext_of_below ((Below.refl _ _).alloc (Nat.le_refl _) _)
theorem ext_set {X : Nat → Prop} (w : World) (b o : Nat) (v : Value) (hx : X b) : Ext X w (w.setCell ⟨b, o, none⟩ v) :=
  ⟨by simp, fun b' o' _ hn => World.cell?_setCell_far w ⟨b, o, none⟩ ⟨b', o', none⟩ v (fun h => hn (by have e : b = b' := h; rw [← e]; exact hx))⟩
def Good (X : Nat → Prop) (w : World) (d : Value) (k : Int) : Prop :=
  (∀ w1, Ext X w w1 → Calls Try.prog 16 #[d] w1 fun e w' => e = .returned (.int .u8 (prim k)) ∧ Below w1.heap.size w1 w') ∧
  (∀ w1, Ext X w w1 → Calls Try.prog 11 #[d] w1 fun e w' => e = .returned (.tuple #[.string (tname k), .bool (tok k)]) ∧ Below w1.heap.size w1 w')
theorem Good.later {X : Nat → Prop} {w w2 : World} {d : Value} {k : Int} (h : Good X w d k) (he : Ext X w w2) : Good X w2 d k :=
  ⟨fun w1 h1 => h.1 w1 (he.trans h1), fun w1 h1 => h.2 w1 (he.trans h1)⟩
theorem Good.mono {X Y : Nat → Prop} {w : World} {d : Value} {k : Int} (h : Good Y w d k) (hxy : ∀ b, b < w.heap.size → X b → Y b) : Good X w d k :=
  ⟨fun w1 h1 => h.1 w1 (h1.mono hxy), fun w1 h1 => h.2 w1 (h1.mono hxy)⟩
theorem good_leaf (X : Nat → Prop) (k : Int) (hk : 0 ≤ k) (v : Value) (w : World) : Good X w (.iface (ty k) v) k :=
  ⟨fun w1 _ => (kpt_leaf k hk v w1).mono fun e w' ⟨h1, h2⟩ => ⟨h1, by subst h2; exact Below.refl _ _⟩, fun w1 _ => (typ_leaf k hk v w1).mono fun e w' ⟨h1, h2⟩ => ⟨h1, by subst h2; exact Below.refl _ _⟩⟩
set_option maxRecDepth 100000 in
theorem kpt_enum (X : Nat → Prop) (w : World) (b : Nat) (d : Value) (k : Int) (h0 : w.cell? ⟨b, 0, none⟩ = some d) (g : Good X w d k) :
    Calls Try.prog 16 #[.iface 58 (.pointer (some ⟨b, 0, none⟩))] w fun e w' => e = .returned (.int .u8 (prim k)) ∧ Below w.heap.size w w' := by
  have K := Lib.hid (g.1 w (Ext.refl _ _))
  clear g
  go_enter Try.func16, Try.ntmps16
  go_wp2_with fail
  refine K.out.mono ?_
  rintro e w1 ⟨rfl, hb⟩
  go_wp2_with fail
  go_ret
  exact ⟨rfl, hb⟩
set_option maxRecDepth 100000 in
theorem typ_enum (X : Nat → Prop) (w : World) (b : Nat) (d : Value) (k : Int) (h0 : w.cell? ⟨b, 0, none⟩ = some d) (g : Good X w d k) :
    Calls Try.prog 11 #[.iface 58 (.pointer (some ⟨b, 0, none⟩))] w fun e w' => e = .returned (.tuple #[.string (tname k), .bool (tok k)]) ∧ Below w.heap.size w w' := by
  have K := Lib.hid (g.2 w (Ext.refl _ _))
  clear g
  go_enter Try.func11, Try.ntmps11
  go_wp2_with fail
  refine K.out.mono ?_
  rintro e w1 ⟨rfl, hb⟩
  go_wp2_with fail
  go_ret2
  exact ⟨rfl, hb⟩
theorem good_enum (X : Nat → Prop) (w : World) (b : Nat) (d : Value) (k : Int) (hb : b < w.heap.size) (hx : ¬ X b) (h0 : w.cell? ⟨b, 0, none⟩ = some d) (g : Good X w d k) :
    Good X w (.iface 58 (.pointer (some ⟨b, 0, none⟩))) k :=
  ⟨fun w1 h1 => kpt_enum X w1 b d k (by rw [h1.2 b 0 hb hx]; exact h0) (g.later h1), fun w1 h1 => typ_enum X w1 b d k (by rw [h1.2 b 0 hb hx]; exact h0) (g.later h1)⟩
def tl (k : Int) : List UInt8 := if k = 0 then [111, 98, 106, 101, 99, 116] else if k = 1 then [117, 110, 100, 101, 102, 105, 110, 101, 100] else if k = 2 then [98, 111, 111, 108, 101, 97, 110] else if k = 3 then [110, 117, 109, 98, 101, 114] else if k = 4 then [115, 116, 114, 105, 110, 103] else if k = 5 then [98, 105, 103, 105, 110, 116] else if k = 6 then [] else if k = 7 then [] else if k = 8 then [102, 117, 110, 99, 116, 105, 111, 110] else if k = 9 then [102, 117, 110, 99, 116, 105, 111, 110] else []
theorem tl_of (k : Int) (hk : 0 ≤ k) : (tname k).toList = tl k := by
  rcases eleven k hk with rfl | rfl | rfl | rfl | rfl | rfl | rfl | rfl | rfl | rfl | h
  · rw [factT0.1]; simp [go_sem]; rfl
  · rw [factT1.1]; simp [go_sem]; rfl
  · rw [factT2.1]; simp [go_sem]; rfl
  · rw [factT3.1]; simp [go_sem]; rfl
  · rw [factT4.1]; simp [go_sem]; rfl
  · rw [factT5.1]; simp [go_sem]; rfl
  · rw [factT6.1]; simp [go_sem]; rfl
  · rw [factT7.1]; simp [go_sem]; rfl
  · rw [factT8.1]; simp [go_sem]; rfl
  · rw [factT9.1]; simp [go_sem]; rfl
  · rw [(bigT k h).1]; unfold tl; repeat rw [if_neg (by omega)]
    simp [go_sem]
def isFn (k : Int) : Bool := tl k == [102, 117, 110, 99, 116, 105, 111, 110]

end Go.Proofs.Ytaljndnoeiocdaa
