/-
  Lemmas shared by several laws of this seat; no statement of their own.
-/
import Derived.Test.YtdjiekejkjgamadRows
import Derived.WalkKit
import Derived.ProofKit
import Derived.OpenShut
import Derived.Test.YtdjiekejkjgamadSlW
import Derived.Test.YtdjiekejkjgamadFltM
import Derived.Test.YtdjiekejkjgamadFltW
import Derived.Test.YtdjiekejkjgamadFltX
import Derived.Test.YtdjiekejkjgamadFltY
import Derived.Test.YtdjiekejkjgamadFltZ
import Derived.WalkLawsBesides
import Derived.WalkSpells
import Derived.Below
import Derived.Lib.Hide
import Derived.Outline
namespace Go.Proofs.Ytdjiekejkjgamad
open Go.ChangeShapes Go.WideShapes Go.ChangeAt Go.RowKit

set_option linter.unusedVariables false

theorem ta_ptr {P : Program} (t s T e : TypeId) (v : Value) (w : World) (hu : P.underlying T = some (.pointer e)) (hz : (zeroValue T).run P w = .ok (.pointer none) w) :
    (Instr.typeAssert (.iface t v) s T true).run P w = .ok (if t = T then .tuple #[v, .bool true] else .tuple #[.pointer none, .bool false]) w := by
  by_cases h : t = T <;> simp [Instr.typeAssert, run_underlying hu, hz, h]
theorem ta_nil {P : Program} (s T e : TypeId) (w : World) (hu : P.underlying T = some (.pointer e)) (hz : (zeroValue T).run P w = .ok (.pointer none) w) :
    (Instr.typeAssert .nilIface s T true).run P w = .ok (.tuple #[.pointer none, .bool false]) w := by
  simp [Instr.typeAssert, run_underlying hu, hz]
theorem ta28 (t : TypeId) (v : Value) (s : TypeId) (w : World) : (Instr.typeAssert (.iface t v) s 28 true).run Try.prog w = .ok (if t = 28 then .tuple #[v, .bool true] else .tuple #[.pointer none, .bool false]) w := ta_ptr t s 28 _ v w Try.underlying28 (by kernel_rfl)
theorem tn28 (s : TypeId) (w : World) : (Instr.typeAssert .nilIface s 28 true).run Try.prog w = .ok (.tuple #[.pointer none, .bool false]) w := ta_nil s 28 _ w Try.underlying28 (by kernel_rfl)
theorem ta42 (t : TypeId) (v : Value) (s : TypeId) (w : World) : (Instr.typeAssert (.iface t v) s 42 true).run Try.prog w = .ok (if t = 42 then .tuple #[v, .bool true] else .tuple #[.pointer none, .bool false]) w := ta_ptr t s 42 _ v w Try.underlying42 (by kernel_rfl)
theorem tn42 (s : TypeId) (w : World) : (Instr.typeAssert .nilIface s 42 true).run Try.prog w = .ok (.tuple #[.pointer none, .bool false]) w := ta_nil s 42 _ w Try.underlying42 (by kernel_rfl)
theorem ta45 (t : TypeId) (v : Value) (s : TypeId) (w : World) : (Instr.typeAssert (.iface t v) s 45 true).run Try.prog w = .ok (if t = 45 then .tuple #[v, .bool true] else .tuple #[.pointer none, .bool false]) w := ta_ptr t s 45 _ v w Try.underlying45 (by kernel_rfl)
theorem tn45 (s : TypeId) (w : World) : (Instr.typeAssert .nilIface s 45 true).run Try.prog w = .ok (.tuple #[.pointer none, .bool false]) w := ta_nil s 45 _ w Try.underlying45 (by kernel_rfl)
theorem ta68 (t : TypeId) (v : Value) (s : TypeId) (w : World) : (Instr.typeAssert (.iface t v) s 68 true).run Try.prog w = .ok (if t = 68 then .tuple #[v, .bool true] else .tuple #[.pointer none, .bool false]) w := ta_ptr t s 68 _ v w Try.underlying68 (by kernel_rfl)
theorem tn68 (s : TypeId) (w : World) : (Instr.typeAssert .nilIface s 68 true).run Try.prog w = .ok (.tuple #[.pointer none, .bool false]) w := ta_nil s 68 _ w Try.underlying68 (by kernel_rfl)
theorem ta72 (t : TypeId) (v : Value) (s : TypeId) (w : World) : (Instr.typeAssert (.iface t v) s 72 true).run Try.prog w = .ok (if t = 72 then .tuple #[v, .bool true] else .tuple #[.pointer none, .bool false]) w := ta_ptr t s 72 _ v w Try.underlying72 (by kernel_rfl)
theorem tn72 (s : TypeId) (w : World) : (Instr.typeAssert .nilIface s 72 true).run Try.prog w = .ok (.tuple #[.pointer none, .bool false]) w := ta_nil s 72 _ w Try.underlying72 (by kernel_rfl)
theorem ta75 (t : TypeId) (v : Value) (s : TypeId) (w : World) : (Instr.typeAssert (.iface t v) s 75 true).run Try.prog w = .ok (if t = 75 then .tuple #[v, .bool true] else .tuple #[.pointer none, .bool false]) w := ta_ptr t s 75 _ v w Try.underlying75 (by kernel_rfl)
theorem tn75 (s : TypeId) (w : World) : (Instr.typeAssert .nilIface s 75 true).run Try.prog w = .ok (.tuple #[.pointer none, .bool false]) w := ta_nil s 75 _ w Try.underlying75 (by kernel_rfl)
theorem ta76 (t : TypeId) (v : Value) (s : TypeId) (w : World) : (Instr.typeAssert (.iface t v) s 76 true).run Try.prog w = .ok (if t = 76 then .tuple #[v, .bool true] else .tuple #[.pointer none, .bool false]) w := ta_ptr t s 76 _ v w Try.underlying76 (by kernel_rfl)
theorem tn76 (s : TypeId) (w : World) : (Instr.typeAssert .nilIface s 76 true).run Try.prog w = .ok (.tuple #[.pointer none, .bool false]) w := ta_nil s 76 _ w Try.underlying76 (by kernel_rfl)
theorem ta77 (t : TypeId) (v : Value) (s : TypeId) (w : World) : (Instr.typeAssert (.iface t v) s 77 true).run Try.prog w = .ok (if t = 77 then .tuple #[v, .bool true] else .tuple #[.pointer none, .bool false]) w := ta_ptr t s 77 _ v w Try.underlying77 (by kernel_rfl)
theorem tn77 (s : TypeId) (w : World) : (Instr.typeAssert .nilIface s 77 true).run Try.prog w = .ok (.tuple #[.pointer none, .bool false]) w := ta_nil s 77 _ w Try.underlying77 (by kernel_rfl)
theorem ta78 (t : TypeId) (v : Value) (s : TypeId) (w : World) : (Instr.typeAssert (.iface t v) s 78 true).run Try.prog w = .ok (if t = 78 then .tuple #[v, .bool true] else .tuple #[.pointer none, .bool false]) w := ta_ptr t s 78 _ v w Try.underlying78 (by kernel_rfl)
theorem tn78 (s : TypeId) (w : World) : (Instr.typeAssert .nilIface s 78 true).run Try.prog w = .ok (.tuple #[.pointer none, .bool false]) w := ta_nil s 78 _ w Try.underlying78 (by kernel_rfl)
attribute [go_sem] ta28 tn28 ta42 tn42 ta45 tn45 ta68 tn68 ta72 tn72 ta75 tn75 ta76 tn76 ta77 tn77 ta78 tn78
/-- A leaf: a number literal (the word x) or a string literal. -/
def Leaf (w : World) (b : Nat) (d : Value) (str : Bool) (x : Nat) : Prop :=
  (str = false ∧ d = .iface 45 (.pointer (some ⟨b, 0, none⟩)) ∧ b < w.heap.size ∧ w.cell? ⟨b, 0, none⟩ = some (.float .f64 x)) ∨
  (str = true ∧ d = .iface 42 (.pointer (some ⟨b, 0, none⟩)) ∧ b < w.heap.size ∧ ∃ A n c, w.cell? ⟨b, 0, none⟩ = some (.slice A n c))
theorem Leaf.later {w w' : World} {b : Nat} {d : Value} {str : Bool} {x : Nat} (h : Leaf w b d str x) (hb : Below w.heap.size w w') : Leaf w' b d str x := by
  have hz := hb.size
  rcases h with ⟨h1, h2, h3, h4⟩ | ⟨h1, h2, h3, A, n, c, h4⟩
  · exact .inl ⟨h1, h2, by omega, by rw [(bcell hb).1 _ _ h3]; exact h4⟩
  · exact .inr ⟨h1, h2, by omega, A, n, c, by rw [(bcell hb).1 _ _ h3]; exact h4⟩
def numR (str : Bool) (x : Nat) : Nat := if str then 0 else x
theorem en_any (w : World) (b : Nat) (d : Value) (str : Bool) (x : Nat) (h : Leaf w b d str x) : Calls Try.prog 18 #[d] w fun e w' => e = .returned (.tuple #[.float .f64 (numR str x), .bool (!str)]) ∧ w = w' := by
  rcases h with ⟨rfl, rfl, hb, hc⟩ | ⟨rfl, rfl, hb, A, n, c, hc⟩
  · go_enter Try.func18, Try.ntmps18
    go_wp2_with fail
    go_ret2
    exact ⟨rfl, rfl⟩
  · go_enter Try.func18, Try.ntmps18
    go_wp2_with fail
    go_ret2
    exact ⟨rfl, rfl⟩
def SomeS (str : Bool) (w : World) (e : Ending) (w' : World) : Prop := ∃ A n c, e = .returned (.tuple #[.slice A n c, .bool str]) ∧ w = w'
theorem es_any (w : World) (b : Nat) (d : Value) (str : Bool) (x : Nat) (h : Leaf w b d str x) : Calls Try.prog 23 #[d] w (SomeS str w) := by
  rcases h with ⟨rfl, rfl, hb, hc⟩ | ⟨rfl, rfl, hb, A, n, c, hc⟩
  · go_enter Try.func23, Try.ntmps23
    go_wp2_with fail
    go_ret2
    exact ⟨_, _, _, rfl, rfl⟩
  · go_enter Try.func23, Try.ntmps23
    go_wp2_with fail
    go_ret2
    exact ⟨_, _, _, rfl, rfl⟩
theorem ipl_any (w : World) (b : Nat) (d : Value) (str : Bool) (x : Nat) (h : Leaf w b d str x) : Calls Try.prog 17 #[d] w fun e w' => e = .returned (.bool true) ∧ w = w' := by
  rcases h with ⟨rfl, rfl, hb, hc⟩ | ⟨rfl, rfl, hb, A, n, c, hc⟩
  · go_enter Try.func17, Try.ntmps17
    go_wp2_with fail
    go_ret
    exact ⟨rfl, rfl⟩
  · go_enter Try.func17, Try.ntmps17
    go_wp2_with fail
    go_ret
    exact ⟨rfl, rfl⟩
theorem two_below (w : World) (o1 o2 : Obj) : Below w.heap.size w ((w.alloc o1).alloc o2) := ((Below.refl _ _).alloc (Nat.le_refl _) _).alloc (by simp) _
def Num2 (p m : Bool) (x y : Nat) (w : World) (e : Ending) (w' : World) : Prop := e = .returned (.tuple #[.float .f64 (if !p && !m then x else 0), .float .f64 (if !p && !m then y else 0), .bool (!p && !m)]) ∧ Below w.heap.size w w'
set_option maxRecDepth 100000 in
theorem ens_any (w : World) (b b' : Nat) (d d' : Value) (p m : Bool) (x y : Nat) (h : Leaf w b d p x) (h' : Leaf w b' d' m y) : Calls Try.prog 10 #[.agg #[d, .int .i32 0], .agg #[d', .int .i32 0]] w (Num2 p m x y w) := by
  have BL := Lib.hid (two_below w)
  have L1 := Lib.hid (fun o1 o2 => en_any _ b d p x (h.later (two_below w o1 o2)))
  have L2 := Lib.hid (fun o1 o2 => en_any _ b' d' m y (h'.later (two_below w o1 o2)))
  clear h h'
  cases p
  · cases m
    all_goals
      go_enter Try.func10, Try.ntmps10
      go_wp2_with fail
      refine (L1.out _ _).mono ?_
      rintro e w1 ⟨rfl, rfl⟩
      go_wp2_with fail
      refine (L2.out _ _).mono ?_
      rintro e w1 ⟨rfl, rfl⟩
      go_wp2_with fail
      go_ret3
      exact ⟨rfl, BL.out _ _⟩
  · go_enter Try.func10, Try.ntmps10
    go_wp2_with fail
    refine (L1.out _ _).mono ?_
    rintro e w1 ⟨rfl, rfl⟩
    go_wp2_with fail
    go_ret3
    exact ⟨rfl, BL.out _ _⟩
def Str2 (p m : Bool) (w : World) (e : Ending) (w' : World) : Prop := ∃ A n c B k l, e = .returned (.tuple #[.slice A n c, .slice B k l, .bool (p && m)]) ∧ Below w.heap.size w w'
set_option maxRecDepth 100000 in
theorem ess_any (w : World) (b b' : Nat) (d d' : Value) (p m : Bool) (x y : Nat) (h : Leaf w b d p x) (h' : Leaf w b' d' m y) : Calls Try.prog 13 #[.agg #[d, .int .i32 0], .agg #[d', .int .i32 0]] w (Str2 p m w) := by
  have BL := Lib.hid (two_below w)
  have L1 := Lib.hid (fun o1 o2 => es_any _ b d p x (h.later (two_below w o1 o2)))
  have L2 := Lib.hid (fun o1 o2 => es_any _ b' d' m y (h'.later (two_below w o1 o2)))
  clear h h'
  cases p
  · go_enter Try.func13, Try.ntmps13
    go_wp2_with fail
    refine (L1.out _ _).mono ?_
    rintro e w1 ⟨A, n, c, rfl, rfl⟩
    go_wp2_with fail
    go_ret3
    exact ⟨_, _, _, _, _, _, rfl, BL.out _ _⟩
  · cases m
    all_goals
      go_enter Try.func13, Try.ntmps13
      go_wp2_with fail
      refine (L1.out _ _).mono ?_
      rintro e w1 ⟨A, n, c, rfl, rfl⟩
      go_wp2_with fail
      refine (L2.out _ _).mono ?_
      rintro e w1 ⟨B, k, l, rfl, rfl⟩
      go_wp2_with fail
      go_ret3
      exact ⟨_, _, _, _, _, _, rfl, BL.out _ _⟩

end Go.Proofs.Ytdjiekejkjgamad
