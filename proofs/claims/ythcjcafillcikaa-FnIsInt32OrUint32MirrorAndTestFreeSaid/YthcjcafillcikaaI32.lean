/-
  Lemmas shared by several laws of this seat; no statement of their own.
-/
import Derived.Test.YthcjcafillcikaaRows
import Derived.WalkKit
import Derived.ProofKit
import Derived.OpenShut
import Derived.Test.YthcjcafillcikaaSlW
import Derived.Test.YthcjcafillcikaaExtW
import Derived.WalkLawsBesides
import Derived.WalkSpells
import Derived.Below
import Derived.Lib.Hide
namespace Go.Proofs.Ythcjcafillcikaa
open Go.ChangeShapes Go.WideShapes Go.ChangeAt Go.RowKit

set_option linter.unusedVariables false

theorem ta_ptr {P : Program} (t s T e : TypeId) (v : Value) (w : World) (hu : P.underlying T = some (.pointer e)) (hz : (zeroValue T).run P w = .ok (.pointer none) w) :
    (Instr.typeAssert (.iface t v) s T true).run P w = .ok (if t = T then .tuple #[v, .bool true] else .tuple #[.pointer none, .bool false]) w := by
  by_cases h : t = T <;> simp [Instr.typeAssert, run_underlying hu, hz, h]
theorem ta_nil {P : Program} (s T e : TypeId) (w : World) (hu : P.underlying T = some (.pointer e)) (hz : (zeroValue T).run P w = .ok (.pointer none) w) :
    (Instr.typeAssert .nilIface s T true).run P w = .ok (.tuple #[.pointer none, .bool false]) w := by
  simp [Instr.typeAssert, run_underlying hu, hz]
theorem ta47 (t : TypeId) (v : Value) (s : TypeId) (w : World) : (Instr.typeAssert (.iface t v) s 47 true).run Try.prog w = .ok (if t = 47 then .tuple #[v, .bool true] else .tuple #[.pointer none, .bool false]) w := ta_ptr t s 47 _ v w Try.underlying47 (by kernel_rfl)
theorem tn47 (s : TypeId) (w : World) : (Instr.typeAssert .nilIface s 47 true).run Try.prog w = .ok (.tuple #[.pointer none, .bool false]) w := ta_nil s 47 _ w Try.underlying47 (by kernel_rfl)
theorem ta50 (t : TypeId) (v : Value) (s : TypeId) (w : World) : (Instr.typeAssert (.iface t v) s 50 true).run Try.prog w = .ok (if t = 50 then .tuple #[v, .bool true] else .tuple #[.pointer none, .bool false]) w := ta_ptr t s 50 _ v w Try.underlying50 (by kernel_rfl)
theorem tn50 (s : TypeId) (w : World) : (Instr.typeAssert .nilIface s 50 true).run Try.prog w = .ok (.tuple #[.pointer none, .bool false]) w := ta_nil s 50 _ w Try.underlying50 (by kernel_rfl)
theorem ta52 (t : TypeId) (v : Value) (s : TypeId) (w : World) : (Instr.typeAssert (.iface t v) s 52 true).run Try.prog w = .ok (if t = 52 then .tuple #[v, .bool true] else .tuple #[.pointer none, .bool false]) w := ta_ptr t s 52 _ v w Try.underlying52 (by kernel_rfl)
theorem tn52 (s : TypeId) (w : World) : (Instr.typeAssert .nilIface s 52 true).run Try.prog w = .ok (.tuple #[.pointer none, .bool false]) w := ta_nil s 52 _ w Try.underlying52 (by kernel_rfl)
theorem ta56 (t : TypeId) (v : Value) (s : TypeId) (w : World) : (Instr.typeAssert (.iface t v) s 56 true).run Try.prog w = .ok (if t = 56 then .tuple #[v, .bool true] else .tuple #[.pointer none, .bool false]) w := ta_ptr t s 56 _ v w Try.underlying56 (by kernel_rfl)
theorem tn56 (s : TypeId) (w : World) : (Instr.typeAssert .nilIface s 56 true).run Try.prog w = .ok (.tuple #[.pointer none, .bool false]) w := ta_nil s 56 _ w Try.underlying56 (by kernel_rfl)
theorem ta60 (t : TypeId) (v : Value) (s : TypeId) (w : World) : (Instr.typeAssert (.iface t v) s 60 true).run Try.prog w = .ok (if t = 60 then .tuple #[v, .bool true] else .tuple #[.pointer none, .bool false]) w := ta_ptr t s 60 _ v w Try.underlying60 (by kernel_rfl)
theorem tn60 (s : TypeId) (w : World) : (Instr.typeAssert .nilIface s 60 true).run Try.prog w = .ok (.tuple #[.pointer none, .bool false]) w := ta_nil s 60 _ w Try.underlying60 (by kernel_rfl)
theorem ta69 (t : TypeId) (v : Value) (s : TypeId) (w : World) : (Instr.typeAssert (.iface t v) s 69 true).run Try.prog w = .ok (if t = 69 then .tuple #[v, .bool true] else .tuple #[.pointer none, .bool false]) w := ta_ptr t s 69 _ v w Try.underlying69 (by kernel_rfl)
theorem tn69 (s : TypeId) (w : World) : (Instr.typeAssert .nilIface s 69 true).run Try.prog w = .ok (.tuple #[.pointer none, .bool false]) w := ta_nil s 69 _ w Try.underlying69 (by kernel_rfl)
theorem ta77 (t : TypeId) (v : Value) (s : TypeId) (w : World) : (Instr.typeAssert (.iface t v) s 77 true).run Try.prog w = .ok (if t = 77 then .tuple #[v, .bool true] else .tuple #[.pointer none, .bool false]) w := ta_ptr t s 77 _ v w Try.underlying77 (by kernel_rfl)
theorem tn77 (s : TypeId) (w : World) : (Instr.typeAssert .nilIface s 77 true).run Try.prog w = .ok (.tuple #[.pointer none, .bool false]) w := ta_nil s 77 _ w Try.underlying77 (by kernel_rfl)
theorem ta80 (t : TypeId) (v : Value) (s : TypeId) (w : World) : (Instr.typeAssert (.iface t v) s 80 true).run Try.prog w = .ok (if t = 80 then .tuple #[v, .bool true] else .tuple #[.pointer none, .bool false]) w := ta_ptr t s 80 _ v w Try.underlying80 (by kernel_rfl)
theorem tn80 (s : TypeId) (w : World) : (Instr.typeAssert .nilIface s 80 true).run Try.prog w = .ok (.tuple #[.pointer none, .bool false]) w := ta_nil s 80 _ w Try.underlying80 (by kernel_rfl)
theorem ta84 (t : TypeId) (v : Value) (s : TypeId) (w : World) : (Instr.typeAssert (.iface t v) s 84 true).run Try.prog w = .ok (if t = 84 then .tuple #[v, .bool true] else .tuple #[.pointer none, .bool false]) w := ta_ptr t s 84 _ v w Try.underlying84 (by kernel_rfl)
theorem tn84 (s : TypeId) (w : World) : (Instr.typeAssert .nilIface s 84 true).run Try.prog w = .ok (.tuple #[.pointer none, .bool false]) w := ta_nil s 84 _ w Try.underlying84 (by kernel_rfl)
theorem ta88 (t : TypeId) (v : Value) (s : TypeId) (w : World) : (Instr.typeAssert (.iface t v) s 88 true).run Try.prog w = .ok (if t = 88 then .tuple #[v, .bool true] else .tuple #[.pointer none, .bool false]) w := ta_ptr t s 88 _ v w Try.underlying88 (by kernel_rfl)
theorem tn88 (s : TypeId) (w : World) : (Instr.typeAssert .nilIface s 88 true).run Try.prog w = .ok (.tuple #[.pointer none, .bool false]) w := ta_nil s 88 _ w Try.underlying88 (by kernel_rfl)
theorem ta93 (t : TypeId) (v : Value) (s : TypeId) (w : World) : (Instr.typeAssert (.iface t v) s 93 true).run Try.prog w = .ok (if t = 93 then .tuple #[v, .bool true] else .tuple #[.pointer none, .bool false]) w := ta_ptr t s 93 _ v w Try.underlying93 (by kernel_rfl)
theorem tn93 (s : TypeId) (w : World) : (Instr.typeAssert .nilIface s 93 true).run Try.prog w = .ok (.tuple #[.pointer none, .bool false]) w := ta_nil s 93 _ w Try.underlying93 (by kernel_rfl)
theorem ta96 (t : TypeId) (v : Value) (s : TypeId) (w : World) : (Instr.typeAssert (.iface t v) s 96 true).run Try.prog w = .ok (if t = 96 then .tuple #[v, .bool true] else .tuple #[.pointer none, .bool false]) w := ta_ptr t s 96 _ v w Try.underlying96 (by kernel_rfl)
theorem tn96 (s : TypeId) (w : World) : (Instr.typeAssert .nilIface s 96 true).run Try.prog w = .ok (.tuple #[.pointer none, .bool false]) w := ta_nil s 96 _ w Try.underlying96 (by kernel_rfl)
theorem ta99 (t : TypeId) (v : Value) (s : TypeId) (w : World) : (Instr.typeAssert (.iface t v) s 99 true).run Try.prog w = .ok (if t = 99 then .tuple #[v, .bool true] else .tuple #[.pointer none, .bool false]) w := ta_ptr t s 99 _ v w Try.underlying99 (by kernel_rfl)
theorem tn99 (s : TypeId) (w : World) : (Instr.typeAssert .nilIface s 99 true).run Try.prog w = .ok (.tuple #[.pointer none, .bool false]) w := ta_nil s 99 _ w Try.underlying99 (by kernel_rfl)
theorem ta103 (t : TypeId) (v : Value) (s : TypeId) (w : World) : (Instr.typeAssert (.iface t v) s 103 true).run Try.prog w = .ok (if t = 103 then .tuple #[v, .bool true] else .tuple #[.pointer none, .bool false]) w := ta_ptr t s 103 _ v w Try.underlying103 (by kernel_rfl)
theorem tn103 (s : TypeId) (w : World) : (Instr.typeAssert .nilIface s 103 true).run Try.prog w = .ok (.tuple #[.pointer none, .bool false]) w := ta_nil s 103 _ w Try.underlying103 (by kernel_rfl)
theorem ta107 (t : TypeId) (v : Value) (s : TypeId) (w : World) : (Instr.typeAssert (.iface t v) s 107 true).run Try.prog w = .ok (if t = 107 then .tuple #[v, .bool true] else .tuple #[.pointer none, .bool false]) w := ta_ptr t s 107 _ v w Try.underlying107 (by kernel_rfl)
theorem tn107 (s : TypeId) (w : World) : (Instr.typeAssert .nilIface s 107 true).run Try.prog w = .ok (.tuple #[.pointer none, .bool false]) w := ta_nil s 107 _ w Try.underlying107 (by kernel_rfl)
theorem ta111 (t : TypeId) (v : Value) (s : TypeId) (w : World) : (Instr.typeAssert (.iface t v) s 111 true).run Try.prog w = .ok (if t = 111 then .tuple #[v, .bool true] else .tuple #[.pointer none, .bool false]) w := ta_ptr t s 111 _ v w Try.underlying111 (by kernel_rfl)
theorem tn111 (s : TypeId) (w : World) : (Instr.typeAssert .nilIface s 111 true).run Try.prog w = .ok (.tuple #[.pointer none, .bool false]) w := ta_nil s 111 _ w Try.underlying111 (by kernel_rfl)
theorem ta115 (t : TypeId) (v : Value) (s : TypeId) (w : World) : (Instr.typeAssert (.iface t v) s 115 true).run Try.prog w = .ok (if t = 115 then .tuple #[v, .bool true] else .tuple #[.pointer none, .bool false]) w := ta_ptr t s 115 _ v w Try.underlying115 (by kernel_rfl)
theorem tn115 (s : TypeId) (w : World) : (Instr.typeAssert .nilIface s 115 true).run Try.prog w = .ok (.tuple #[.pointer none, .bool false]) w := ta_nil s 115 _ w Try.underlying115 (by kernel_rfl)
theorem ta116 (t : TypeId) (v : Value) (s : TypeId) (w : World) : (Instr.typeAssert (.iface t v) s 116 true).run Try.prog w = .ok (if t = 116 then .tuple #[v, .bool true] else .tuple #[.pointer none, .bool false]) w := ta_ptr t s 116 _ v w Try.underlying116 (by kernel_rfl)
theorem tn116 (s : TypeId) (w : World) : (Instr.typeAssert .nilIface s 116 true).run Try.prog w = .ok (.tuple #[.pointer none, .bool false]) w := ta_nil s 116 _ w Try.underlying116 (by kernel_rfl)
theorem ta125 (t : TypeId) (v : Value) (s : TypeId) (w : World) : (Instr.typeAssert (.iface t v) s 125 true).run Try.prog w = .ok (if t = 125 then .tuple #[v, .bool true] else .tuple #[.pointer none, .bool false]) w := ta_ptr t s 125 _ v w Try.underlying125 (by kernel_rfl)
theorem tn125 (s : TypeId) (w : World) : (Instr.typeAssert .nilIface s 125 true).run Try.prog w = .ok (.tuple #[.pointer none, .bool false]) w := ta_nil s 125 _ w Try.underlying125 (by kernel_rfl)
theorem ta144 (t : TypeId) (v : Value) (s : TypeId) (w : World) : (Instr.typeAssert (.iface t v) s 144 true).run Try.prog w = .ok (if t = 144 then .tuple #[v, .bool true] else .tuple #[.pointer none, .bool false]) w := ta_ptr t s 144 _ v w Try.underlying144 (by kernel_rfl)
theorem tn144 (s : TypeId) (w : World) : (Instr.typeAssert .nilIface s 144 true).run Try.prog w = .ok (.tuple #[.pointer none, .bool false]) w := ta_nil s 144 _ w Try.underlying144 (by kernel_rfl)
theorem ta149 (t : TypeId) (v : Value) (s : TypeId) (w : World) : (Instr.typeAssert (.iface t v) s 149 true).run Try.prog w = .ok (if t = 149 then .tuple #[v, .bool true] else .tuple #[.pointer none, .bool false]) w := ta_ptr t s 149 _ v w Try.underlying149 (by kernel_rfl)
theorem tn149 (s : TypeId) (w : World) : (Instr.typeAssert .nilIface s 149 true).run Try.prog w = .ok (.tuple #[.pointer none, .bool false]) w := ta_nil s 149 _ w Try.underlying149 (by kernel_rfl)
theorem ta152 (t : TypeId) (v : Value) (s : TypeId) (w : World) : (Instr.typeAssert (.iface t v) s 152 true).run Try.prog w = .ok (if t = 152 then .tuple #[v, .bool true] else .tuple #[.pointer none, .bool false]) w := ta_ptr t s 152 _ v w Try.underlying152 (by kernel_rfl)
theorem tn152 (s : TypeId) (w : World) : (Instr.typeAssert .nilIface s 152 true).run Try.prog w = .ok (.tuple #[.pointer none, .bool false]) w := ta_nil s 152 _ w Try.underlying152 (by kernel_rfl)
attribute [go_sem] ta47 tn47 ta50 tn50 ta52 tn52 ta56 tn56 ta60 tn60 ta69 tn69 ta77 tn77 ta80 tn80 ta84 tn84 ta88 tn88 ta93 tn93 ta96 tn96 ta99 tn99 ta103 tn103 ta107 tn107 ta111 tn111 ta115 tn115 ta116 tn116 ta125 tn125 ta144 tn144 ta149 tn149 ta152 tn152
/-- In every later world that keeps the blocks outside X, isInt32OrUint32(d) answers b. -/
def Val (X : Nat → Prop) (w : World) (d : Value) (b : Bool) : Prop := ∀ w1, Ext X w w1 → Calls Try.prog 20 #[d] w1 fun e w' => e = .returned (.bool b) ∧ w1 = w'
theorem Val.later {X : Nat → Prop} {w w2 : World} {d : Value} {b : Bool} (h : Val X w d b) (he : Ext X w w2) : Val X w2 d b := fun w1 h1 => h w1 (he.trans h1)
theorem Val.mono {X Y : Nat → Prop} {w : World} {d : Value} {b : Bool} (h : Val Y w d b) (hxy : ∀ b, b < w.heap.size → X b → Y b) : Val X w d b := fun w1 h1 => h w1 (h1.mono hxy)
theorem val_num (X : Nat → Prop) (w : World) (v : Value) : Val X w (.iface 93 v) false := fun w1 _ => by
  go_enter Try.func20, Try.ntmps20
  go_wp2_with fail
  go_ret
  exact ⟨rfl, rfl⟩
theorem val_un (X : Nat → Prop) (w : World) (v : Value) : Val X w (.iface 99 v) false := fun w1 _ => by
  go_enter Try.func20, Try.ntmps20
  go_wp2_with fail
  go_ret
  exact ⟨rfl, rfl⟩
def binV (op : Int) (l r : Bool) : Bool := if op = 25 then true else if op = 31 ∨ op = 32 then l && r else false
theorem val_bin (X : Nat → Prop) (w : World) (b : Nat) (d1 d2 : Value) (op : Int) (l r : Bool) (hb : b < w.heap.size) (hx : ¬ X b) (h0 : w.cell? ⟨b, 0, none⟩ = some d1) (h2 : w.cell? ⟨b, 2, none⟩ = some d2) (h4 : w.cell? ⟨b, 4, none⟩ = some (.int .u8 op)) (g1 : Val X w d1 l) (g2 : Val X w d2 r) :
    Val X w (.iface 103 (.pointer (some ⟨b, 0, none⟩))) (binV op l r) := fun w1 hw => by
  have K1 := Lib.hid (g1 w1 hw)
  have K2 := Lib.hid (g2 w1 hw)
  have c0 : w1.cell? ⟨b, 0, none⟩ = some d1 := by rw [hw.2 b 0 hb hx]; exact h0
  have c2 : w1.cell? ⟨b, 2, none⟩ = some d2 := by rw [hw.2 b 2 hb hx]; exact h2
  have c4 : w1.cell? ⟨b, 4, none⟩ = some (.int .u8 op) := by rw [hw.2 b 4 hb hx]; exact h4
  have M := Lib.hid (show binV op l r = if op = 25 then true else if op = 31 ∨ op = 32 then l && r else false from rfl)
  clear g1 g2 h0 h2 h4 hw
  cases t1 : (op == 25)
  · cases t2 : (op == 31) <;> cases t3 : (op == 32)
    · have e : Hid (binV op l r = false) := Lib.hid (by rw [M.out]; simp_all)
      rw [e.out]
      clear M
      go_enter Try.func20, Try.ntmps20
      go_wp2_with fail
      go_ret
      exact ⟨rfl, rfl⟩
    all_goals
      have e : Hid (binV op l r = (l && r)) := Lib.hid (by rw [M.out]; simp_all)
      rw [e.out]
      clear M
      cases l
      · go_enter Try.func20, Try.ntmps20
        go_wp2_with fail
        refine K1.out.mono ?_
        rintro e w2 ⟨rfl, rfl⟩
        go_wp2_with fail
        go_ret
        exact ⟨rfl, rfl⟩
      · go_enter Try.func20, Try.ntmps20
        go_wp2_with fail
        refine K1.out.mono ?_
        rintro e w2 ⟨rfl, rfl⟩
        go_wp2_with fail
        refine K2.out.mono ?_
        rintro e w2 ⟨rfl, rfl⟩
        go_wp2_with fail
        go_ret
        exact ⟨rfl, rfl⟩
  · have e : Hid (binV op l r = true) := Lib.hid (by rw [M.out]; simp_all)
    rw [e.out]
    clear M
    go_enter Try.func20, Try.ntmps20
    go_wp2_with fail
    go_ret
    exact ⟨rfl, rfl⟩
theorem val_if (X : Nat → Prop) (w : World) (b : Nat) (d1 d2 : Value) (l r : Bool) (hb : b < w.heap.size) (hx : ¬ X b) (h2 : w.cell? ⟨b, 2, none⟩ = some d1) (h4 : w.cell? ⟨b, 4, none⟩ = some d2) (g1 : Val X w d1 l) (g2 : Val X w d2 r) :
    Val X w (.iface 96 (.pointer (some ⟨b, 0, none⟩))) (l && r) := fun w1 hw => by
  have K1 := Lib.hid (g1 w1 hw)
  have K2 := Lib.hid (g2 w1 hw)
  have c2 : w1.cell? ⟨b, 2, none⟩ = some d1 := by rw [hw.2 b 2 hb hx]; exact h2
  have c4 : w1.cell? ⟨b, 4, none⟩ = some d2 := by rw [hw.2 b 4 hb hx]; exact h4
  clear g1 g2 h2 h4 hw
  cases l
  · go_enter Try.func20, Try.ntmps20
    go_wp2_with fail
    refine K1.out.mono ?_
    rintro e w2 ⟨rfl, rfl⟩
    go_wp2_with fail
    go_ret
    exact ⟨rfl, rfl⟩
  · go_enter Try.func20, Try.ntmps20
    go_wp2_with fail
    refine K1.out.mono ?_
    rintro e w2 ⟨rfl, rfl⟩
    go_wp2_with fail
    refine K2.out.mono ?_
    rintro e w2 ⟨rfl, rfl⟩
    go_wp2_with fail
    go_ret
    exact ⟨rfl, rfl⟩

end Go.Proofs.Ythcjcafillcikaa
