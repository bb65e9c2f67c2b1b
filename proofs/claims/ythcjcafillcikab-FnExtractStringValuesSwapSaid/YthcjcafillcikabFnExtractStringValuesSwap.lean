/-
  For every two slices of uint16, two slices of bool, two floats and two bools the law FnExtractStringValuesSwap returns true and leaves its arguments as they were; no condition.
  The frame of this text was written by the kit's program proof-skeleton.mjs for this statement; the walk and its lemmas are the prover's.
-/
import Derived.Test.YthcjcafillcikabRows
import Derived.WalkKit
import Derived.ProofKit
import Derived.OpenShut
import Derived.Test.YthcjcafillcikabSlW
import Derived.Test.YthcjcafillcikabExtW
import Derived.Test.YthcjcafillcikabExtr
import Derived.Test.YthcjcafillcikabCl298
import Derived.Test.YthcjcafillcikabClB298
import Derived.Test.YthcjcafillcikabEq298
import Derived.DataReads
import Derived.WalkSpells
import Derived.ShutString
import Derived.ChangeOld
import Derived.Below
import Derived.WalkLawsBesides
import Derived.Deep.Slices
import Derived.Laws.Cover2
namespace Go.Proofs.Ythcjcafillcikab.fnExtractStringValuesSwap
open Go.ChangeShapes Go.WideShapes Go.ChangeAt Go.RowKit
open Go.ChangeMaps (open_string shut_string)
open Go.Deep (open_slice1)
set_option linter.unusedVariables false

theorem own : ownKnob Try.prog.godebug = none := by kernel_rfl
theorem laidOut : laidOutB Try.prog = true := by kernel_rfl

def IsRow {α : Type} (φ : α → Value) (ok : α → Prop) (w : World) (a : Option Addr) (len cap : Nat) (zs : List α) : Prop :=
  (a = none ∧ len = 0 ∧ cap = 0 ∧ zs = []) ∨
  ∃ x, a = some x ∧ len ≤ cap ∧ cap ≤ maxLen ∧ zs.length = len ∧ (∀ i (h : i < zs.length), w.cell? (x.add i) = some (φ zs[i])) ∧ ∀ n ∈ zs, ok n

theorem isRow_of {α : Type} {H : Type} {enc : TypeId × Value → H} {P : Program} {w : World} {held : Bool} {t e : TypeId} {fuel : Nat} {a : Option Addr} {len cap : Nat} {y : DataW H × List MemPlace} (φ : α → Value) (ok : α → Prop) (d0 : α) (ht : P.underlying t = some (.slice e)) (hc : P.cellsOf e = 1)
    (h : DataW.trod enc P w 0 (fun _ => true) held fuel t (Value.slice a len cap).cells.toList = some y)
    (each : ∀ (n : Nat) (v : Value) (z : DataW H × List MemPlace), DataW.trod enc P w 0 (fun _ => true) held n e [v] = some z → ∃ u, v = φ u ∧ ok u) : ∃ zs, IsRow φ ok w a len cap zs := by
  rcases open_slice1 ht hc h with ⟨hcs, _⟩ | ⟨x, l, c, m, n, V, D, Pl, hcs, _, hl, hm, hmm, hy, hx⟩
  · simp [Value.cells] at hcs
    obtain ⟨rfl, rfl, rfl⟩ := hcs
    exact ⟨[], .inl ⟨rfl, rfl, rfl, rfl⟩⟩
  · simp [Value.cells] at hcs
    obtain ⟨rfl, rfl, rfl⟩ := hcs
    simp only [if_true] at hmm
    subst hmm
    have hex : ∀ i, ∃ u, i < len → V i = φ u ∧ ok u := by
      intro i
      by_cases hi : i < len
      · obtain ⟨u, h1, h2⟩ := each n (V i) _ (hx i (by omega)).2
        exact ⟨u, fun _ => ⟨h1, h2⟩⟩
      · exact ⟨d0, fun h => absurd h hi⟩
    refine ⟨(List.range len).map fun i => Classical.choose (hex i), .inr ⟨x, rfl, hl, hm, by simp, ?_, ?_⟩⟩
    · intro i hi
      simp at hi
      rw [(hx i (by omega)).1, (Classical.choose_spec (hex i) hi).1]
      simp
    · intro u hu
      simp at hu
      obtain ⟨i, hi, rfl⟩ := hu
      exact (Classical.choose_spec (hex i) hi).2

theorem block_lt {w : World} {a : Addr} {v : Value} (h : w.cell? a = some v) : a.block < w.heap.size := by
  rcases Nat.lt_or_ge a.block w.heap.size with hlt | hge
  · exact hlt
  · simp [World.cell?, Array.getElem?_eq_none hge] at h
theorem sl_of_row {α : Type} {φ : α → Value} {ok : α → Prop} {w : World} {a : Option Addr} {len cap : Nat} {zs : List α} (h : IsRow φ ok w a len cap zs) : Sl w w.heap.size a len (zs.map φ) ∧ (a = none → len = 0 ∧ cap = 0) := by
  rcases h with ⟨rfl, rfl, rfl, rfl⟩ | ⟨x, rfl, _, _, hl, hc, _⟩
  · exact ⟨Sl.empty, fun _ => ⟨rfl, rfl⟩⟩
  · refine ⟨⟨by simpa using hl, fun hn => ?_⟩, fun h => by cases h⟩
    have h0 := hc 0 (by omega)
    have hx : x.add 0 = x := by simp [Addr.add]
    rw [hx] at h0
    have hs := World.cell?_spot h0
    have hb := block_lt h0
    obtain ⟨b, off, sp⟩ := x
    simp at hs
    subst hs
    refine ⟨b, off, rfl, hb, fun j u hu => ?_⟩
    simp at hu
    obtain ⟨y, hy, rfl⟩ := hu
    have hj : j < zs.length := (List.getElem?_eq_some_iff.1 hy).1
    have := hc j hj
    rw [(List.getElem?_eq_some_iff.1 hy).2] at this
    rw [← this]
    unfold Addr.add
    split
    · rename_i h; simp [h]
    · rfl
theorem len_le {α : Type} {φ : α → Value} {ok : α → Prop} {w : World} {a : Option Addr} {len cap : Nat} {zs : List α} (h : IsRow φ ok w a len cap zs) : len ≤ 9223372036854775807 := by
  rcases h with ⟨rfl, rfl, rfl, rfl⟩ | ⟨x, rfl, h1, h2, _⟩
  · omega
  · unfold maxLen at h2; omega
theorem below_drewN {B : Nat} {w w' : World} (h : Below B w w') (q : Nat) : Below B w (w'.drewN q) := ⟨h.1, h.2, h.3, h.4, h.5⟩

def Byt (Q : Prop) (w : World) (e : Ending) (w' : World) : Prop := ∃ b, e = .returned (.bool b) ∧ w = w' ∧ (b = true → Q)
set_option maxRecDepth 100000 in
theorem bytes_any (A B C D : Option Addr) (n m k l c d f g x y : Nat) (p q : Bool) (w : World) (h1 : n ≤ 9223372036854775807) (h2 : m ≤ 9223372036854775807) (h3 : k ≤ 9223372036854775807) (h4 : l ≤ 9223372036854775807) :
    Calls Try.prog 6 #[.slice A n c, .bool p, .float .f64 x, .slice B m d, .slice C k f, .bool q, .float .f64 y, .slice D l g] w (Byt (n ≤ big20 ∧ m ≤ big20 ∧ k ≤ big20 ∧ l ≤ big20) w) := by
  go_enter Try.func6, Try.ntmps6
  go_wp2_with fail
  all_goals (go_ret; exact ⟨_, rfl, rfl, fun h => by first | (unfold big20; omega) | cases h⟩)
/-- A slice of uint16 that stands in w' : nil where the source was nil. -/
def Made (w : World) (n : Nat) (us : List Int) (e : Ending) (w' : World) : Prop := ∃ A c, e = .returned (.slice A n c) ∧ Sl w' w'.heap.size A n (us.map (Value.int .u16)) ∧ (A = none → n = 0 ∧ c = 0) ∧ Below w.heap.size w w'
def MadeB (w : World) (n : Nat) (us : List Bool) (e : Ending) (w' : World) : Prop := ∃ A c, e = .returned (.slice A n c) ∧ Sl w' w'.heap.size A n (us.map Value.bool) ∧ Below w.heap.size w w'
theorem later_ {w w' : World} {A : Option Addr} {n : Nat} {zs : List Value} (h : Sl w w.heap.size A n zs) (hb : Below w.heap.size w w') : Sl w' w'.heap.size A n zs := (h.below hb).more hb.size
theorem cloned_made (A : Option Addr) (n c : Nat) (us : List Int) (w : World) (hs : Sl w w.heap.size A n (us.map (Value.int .u16))) (hn : n ≤ big20) (hnil : A = none → n = 0 ∧ c = 0) :
    Calls Try.prog 7 #[.slice A n c] w (Made w n us) :=
  (clone_u16 A n c us w hs hn hnil).mono fun e w' h => by
    rcases h with ⟨rfl, h1, rfl⟩ | ⟨_, h1, rfl⟩
    · obtain ⟨rfl, rfl⟩ := hnil rfl
      exact ⟨_, _, h1, hs, fun _ => ⟨rfl, rfl⟩, Below.refl _ _⟩
    · have := Sl.new w 40 (us.map (Value.int .u16)) (w.alloc (.cells (us.map (Value.int .u16)).toArray 40)).heap.size (by simp)
      rw [hs.1] at this
      exact ⟨_, _, h1, this, (fun h => by cases h), (Below.refl _ _).alloc (Nat.le_refl _) _⟩
theorem cloned_madeB (A : Option Addr) (n c : Nat) (us : List Bool) (w : World) (hs : Sl w w.heap.size A n (us.map Value.bool)) (hn : n ≤ big20) (hnil : A = none → n = 0 ∧ c = 0) :
    Calls Try.prog 8 #[.slice A n c] w (MadeB w n us) :=
  (clone_bool A n c us w hs hn hnil).mono fun e w' h => by
    rcases h with ⟨rfl, h1, rfl⟩ | ⟨_, h1, rfl⟩
    · obtain ⟨rfl, rfl⟩ := hnil rfl
      exact ⟨_, _, h1, hs, Below.refl _ _⟩
    · have := Sl.new w 4 (us.map Value.bool) (w.alloc (.cells (us.map Value.bool).toArray 4)).heap.size (by simp)
      rw [hs.1] at this
      exact ⟨_, _, h1, this, (Below.refl _ _).alloc (Nat.le_refl _) _⟩
/-- What extractStringValues answers. -/
def pickS (ok : Bool) (A : Option Addr) : Option Addr := if ok then A else none
def pickN (ok : Bool) (n : Nat) : Nat := if ok then n else 0
set_option maxRecDepth 100000 in
theorem both_any (w : World) (d1 d2 : Value) (A B : Option Addr) (n m c d : Nat) (p q : Bool) (g1 : Sv (fun _ => False) w d1 A n c p) (g2 : Sv (fun _ => False) w d2 B m d q) :
    Calls Try.prog 16 #[.agg #[d1, .int .i32 0], .agg #[d2, .int .i32 0]] w fun e w' => e = .returned (.tuple #[.slice (pickS (p && q) A) (pickN (p && q) n) (pickN (p && q) c), .slice (pickS (p && q) B) (pickN (p && q) m) (pickN (p && q) d), .bool (p && q)]) ∧ Below w.heap.size w w' := by
  have G1 := Lib.hid g1
  have G2 := Lib.hid g2
  clear g1 g2
  have bl : ∀ o1 o2, Below w.heap.size w ((w.alloc o1).alloc o2) := fun o1 o2 => ((Below.refl _ _).alloc (Nat.le_refl _) _).alloc (by simp) _
  have BL := Lib.hid bl
  clear bl
  cases p
  · go_enter Try.func16, Try.ntmps16
    go_wp2_with fail
    refine (G1.out _ (ext_of_below (BL.out _ _))).mono ?_
    rintro e w1 ⟨rfl, rfl⟩
    go_wp2_with fail
    go_ret3
    exact ⟨rfl, BL.out _ _⟩
  · cases q
    all_goals
      go_enter Try.func16, Try.ntmps16
      go_wp2_with fail
      refine (G1.out _ (ext_of_below (BL.out _ _))).mono ?_
      rintro e w1 ⟨rfl, rfl⟩
      go_wp2_with fail
      refine (G2.out _ (ext_of_below (BL.out _ _))).mono ?_
      rintro e w1 ⟨rfl, rfl⟩
      go_wp2_with fail
      go_ret3
      exact ⟨rfl, BL.out _ _⟩
set_option maxRecDepth 100000 in
theorem zzboth_any (w : World) (d1 d2 : Value) (A B : Option Addr) (n m c d : Nat) (p q : Bool) (g1 : Sv (fun _ => False) w d1 A n c p) (g2 : Sv (fun _ => False) w d2 B m d q) :
    Calls Try.prog 11 #[.agg #[d1, .int .i32 0], .agg #[d2, .int .i32 0]] w fun e w' => e = .returned (.tuple #[.slice (pickS (p && q) A) (pickN (p && q) n) (pickN (p && q) c), .slice (pickS (p && q) B) (pickN (p && q) m) (pickN (p && q) d), .bool (p && q)]) ∧ Below w.heap.size w w' := by
  have G1 := Lib.hid g1
  have G2 := Lib.hid g2
  clear g1 g2
  have BL := Lib.hid (show ∀ o1 o2, Below w.heap.size w ((w.alloc o1).alloc o2) from fun o1 o2 => ((Below.refl _ _).alloc (Nat.le_refl _) _).alloc (by simp) _)
  go_enter Try.func11, Try.ntmps11
  go_wp2_with fail
  refine (both_any _ d1 d2 A B n m c d p q (G1.out.later (ext_of_below (BL.out _ _))) (G2.out.later (ext_of_below (BL.out _ _)))).mono ?_
  rintro e w1 ⟨rfl, hb⟩
  go_wp2_with fail
  go_ret3
  exact ⟨rfl, (BL.out _ _).trans (hb.mono (by simp <;> omega))⟩
theorem same_self (A : Option Addr) (n c d : Nat) (us : List Int) (w : World) (hs : Sl w w.heap.size A n (us.map (Value.int .u16))) (hn : n ≤ big20) :
    Calls Try.prog 12 #[.slice A n c, .slice A n d] w fun e w' => e = .returned (.bool true) ∧ ∃ q, w' = w.drewN q := by
  have hq := fun (w : World) (a : Option Addr) (l c : Nat) => eql_nil (P := Try.prog) w 22 40 a l c Try.underlying22
  have h0 : (A.isNone != A.isNone) = false := by simp
  have HE := eq_u16 A A n n c d us us w hs hs hn hn
  rw [show decide (us = us) = true by simp] at HE
  have HE' := Lib.hid HE
  clear HE
  go_enter Try.func12, Try.ntmps12
  go_wp2_with fail
  refine HE'.out.mono ?_
  rintro e w1 ⟨rfl, q, rfl⟩
  go_wp2_with fail
  go_ret
  exact ⟨rfl, _, rfl⟩
def Nice (w : World) (ok : Bool) (A : Option Addr) (n : Nat) (us : List Int) : Prop := Sl w w.heap.size (pickS ok A) (pickN ok n) ((if ok then us else []).map (Value.int .u16))
theorem nice_of {w : World} (ok : Bool) {A : Option Addr} {n : Nat} {us : List Int} (h : Sl w w.heap.size A n (us.map (Value.int .u16))) : Nice w ok A n us := by
  cases ok
  · exact Sl.empty
  · exact h
theorem leaf_b (ok : Bool) (A : Option Addr) (n c : Nat) (f : Nat) (w : World) : Calls Try.prog 10 #[.bool ok, .slice A n c, .float .f64 f] w (Wrapped (pickS ok A) (pickN ok n) (pickN ok c) ok w) := by
  have h := leaf_any ok A n c f w
  cases ok <;> exact h
theorem pk {α : Type} (g : Bool → α → α) (z : α) (hf : ∀ x, g false x = z) (ht : ∀ x, g true x = x) (p q : Bool) (x : α) : g (p && q) (g p x) = g (p && q) x ∧ g (p && q) (g q x) = g (p && q) x := by
  cases p <;> cases q <;> simp [hf, ht]
theorem pkS (p q : Bool) (x : Option Addr) : pickS (p && q) (pickS p x) = pickS (p && q) x ∧ pickS (p && q) (pickS q x) = pickS (p && q) x := pk pickS none (fun _ => rfl) (fun _ => rfl) p q x
theorem pkN (p q : Bool) (x : Nat) : pickN (p && q) (pickN p x) = pickN (p && q) x ∧ pickN (p && q) (pickN q x) = pickN (p && q) x := pk pickN 0 (fun _ => rfl) (fun _ => rfl) p q x
theorem pick2 (p q : Bool) (A : Option Addr) : pickS (p && q) (pickS p A) = pickS (p && q) A ∧ pickS (q && p) (pickS p A) = pickS (p && q) A := by cases p <;> cases q <;> exact ⟨rfl, rfl⟩
theorem pickN2 (p q : Bool) (n : Nat) : pickN (p && q) (pickN p n) = pickN (p && q) n ∧ pickN (q && p) (pickN p n) = pickN (p && q) n := by cases p <;> cases q <;> exact ⟨rfl, rfl⟩
theorem pickN_le (ok : Bool) {n : Nat} (h : n ≤ big20) : pickN ok n ≤ big20 := by cases ok; exact Nat.zero_le _; exact h

set_option maxRecDepth 100000 in
set_option maxHeartbeats 4000000 in
theorem walk (a0 : Option Addr) (len0 cap0 : Nat) (z0 : List Int) (a1 : Bool) (a2 : Nat) (a3 : Option Addr) (len3 cap3 : Nat) (z3 : List Bool) (a4 : Option Addr) (len4 cap4 : Nat) (z4 : List Int) (a5 : Bool) (a6 : Nat) (a7 : Option Addr) (len7 cap7 : Nat) (z7 : List Bool) (w : World) (w0 : IsRow (Value.int .u16) (fun n => (Lit.int .u16 n).wf = true) w a0 len0 cap0 z0) (w2 : (Lit.float .f64 a2).wf = true) (w3 : IsRow Value.bool (fun _ => True) w a3 len3 cap3 z3) (w4 : IsRow (Value.int .u16) (fun n => (Lit.int .u16 n).wf = true) w a4 len4 cap4 z4) (w6 : (Lit.float .f64 a6).wf = true) (w7 : IsRow Value.bool (fun _ => True) w a7 len7 cap7 z7) :
    Calls Try.prog 3 #[.slice a0 len0 cap0, .bool a1, .float .f64 a2, .slice a3 len3 cap3, .slice a4 len4 cap4, .bool a5, .float .f64 a6, .slice a7 len7 cap7] w fun e w' => e = .returned (.bool true) ∧ Below w.heap.size w w' := by
  have l0 := len_le w0
  have l3 := len_le w3
  have l4 := len_le w4
  have l7 := len_le w7
  obtain ⟨s0, n0⟩ := sl_of_row w0
  obtain ⟨s3, n3⟩ := sl_of_row w3
  obtain ⟨s4, n4⟩ := sl_of_row w4
  obtain ⟨s7, n7⟩ := sl_of_row w7
  clear w0 w2 w3 w4 w6 w7
  have N0 := Lib.hid n0
  have N3 := Lib.hid n3
  have N4 := Lib.hid n4
  have N7 := Lib.hid n7
  clear n0 n3 n4 n7
  go_enter Try.func3, Try.ntmps3
  go_wp2_with fail
  refine (bytes_any a0 a3 a4 a7 len0 len3 len4 len7 cap0 cap3 cap4 cap7 a2 a6 a1 a5 w l0 l3 l4 l7).mono ?_
  rintro e w1 ⟨b, rfl, rfl, hq⟩
  cases b
  · go_wp2_with fail
    go_ret
    exact ⟨rfl, Below.refl _ _⟩
  obtain ⟨b0, b3, b4, b7⟩ := hq rfl
  clear hq
  go_wp2_with fail
  · go_ret; exact ⟨rfl, Below.refl _ _⟩
  · go_ret; exact ⟨rfl, Below.refl _ _⟩
  · go_ret; exact ⟨rfl, Below.refl _ _⟩
  · go_ret; exact ⟨rfl, Below.refl _ _⟩
  refine (cloned_made a0 len0 cap0 z0 w s0 b0 N0.out).mono ?_
  rintro e w1 ⟨A, c, rfl, sA, _, hb1⟩
  go_wp2_with fail
  refine (cloned_made a4 len4 cap4 z4 w1 (later_ s4 hb1) b4 N4.out).mono ?_
  rintro e w2 ⟨B, d, rfl, sB, _, hb2⟩
  have hb02 := hb1.trans (hb2.mono hb1.size)
  go_wp2_with fail
  refine (cloned_madeB a3 len3 cap3 z3 w2 (later_ s3 hb02) b3 N3.out).mono ?_
  rintro e w3 ⟨C, f, rfl, sC, hb3⟩
  have hb03 := hb02.trans (hb3.mono hb02.size)
  go_wp2_with fail
  refine (cloned_madeB a7 len7 cap7 z7 w3 (later_ s7 hb03) b7 N7.out).mono ?_
  rintro e w4 ⟨D, g, rfl, sD, hb4⟩
  have hb04 := hb03.trans (hb4.mono hb03.size)
  have sA4 := later_ (later_ (later_ sA hb2) hb3) hb4
  have sB4 := later_ (later_ sB hb3) hb4
  have sC4 := later_ sC hb4
  clear s0 s3 s4 s7 sA sB sC hb1 hb2 hb3 hb02 hb03 hb4
  have B04 := Lib.hid hb04
  clear hb04
  go_wp2_with fail
  refine (leaf_b a1 A len0 c a2 w4).mono ?_
  rintro e w5 ⟨T5, v5, rfl, g5, hb5⟩
  go_wp2_with fail
  refine (wrap_any T5 v5 _ _ _ a1 C len3 f z3 w5 (later_ sC4 hb5) b3 g5).mono ?_
  rintro e w6 ⟨T6, v6, rfl, g6, hb6⟩
  have G6 := Lib.hid g6
  have hb46 := hb5.trans (hb6.mono hb5.size)
  clear g5 g6 hb5 hb6 sC4
  go_wp2_with fail
  refine (leaf_b a5 B len4 d a6 _).mono ?_
  rintro e w7 ⟨T7, v7, rfl, g7, hb7⟩
  have hx7 : Below w6.heap.size w6 w7 := ((Below.refl _ _).alloc (Nat.le_refl _) _).trans (hb7.mono (by simp))
  have hb47 := hb46.trans (hx7.mono hb46.size)
  go_wp2_with fail
  refine (wrap_any T7 v7 _ _ _ a5 D len7 g z7 w7 (later_ sD hb47) b7 g7).mono ?_
  rintro e w8 ⟨T8, v8, rfl, g8, hb8⟩
  have G8 := Lib.hid g8
  have hx8 := hx7.trans (hb8.mono hx7.size)
  have hb48 := hb47.trans (hb8.mono hb47.size)
  have hy8 := hb7.trans (hb8.mono hb7.size)
  have z6 : w6.heap.size < w8.heap.size := by have := hy8.size; simp at this; omega
  have c0 : w8.cell? ⟨w6.heap.size, 0, none⟩ = some (.iface T6 v6) := by rw [(bcell hy8).1 _ _ (by simp)]; simp
  have c1 : w8.cell? ⟨w6.heap.size, 1, none⟩ = some (.int .i32 0) := by rw [(bcell hy8).1 _ _ (by simp)]; simp
  have X8 := Lib.hid hx8
  have B48 := Lib.hid hb48
  clear g7 g8 hb46 hb47 hb48 hx7 hb7 hb8 hx8 hy8 sD
  go_wp2_with fail
  have W0 : Below w8.heap.size w8 (w8.alloc (.cells #[.iface T8 v8, .int .i32 0] 33)) := (Below.refl _ _).alloc (Nat.le_refl _) _
  have J1 := zzboth_any _ (.iface T6 v6) (.iface T8 v8) (pickS a1 A) (pickS a5 B) (pickN a1 len0) (pickN a5 len4) (pickN a1 c) (pickN a5 d) a1 a5 (G6.out.later (ext_of_below (X8.out.trans (W0.mono X8.out.size)))) (G8.out.later (ext_of_below W0))
  rw [(pkS a1 a5 A).1, (pkS a1 a5 B).2, (pkN a1 a5 len0).1, (pkN a1 a5 len4).2, (pkN a1 a5 c).1, (pkN a1 a5 d).2] at J1
  have K1 := Lib.hid J1
  have W0' := Lib.hid W0
  clear J1 W0
  refine K1.out.mono ?_
  rintro e w9 ⟨rfl, hb9⟩
  have z8 : w8.heap.size < w9.heap.size := by have := hb9.size; simp at this; omega
  have d0 : w9.cell? ⟨w6.heap.size, 0, none⟩ = some (.iface T6 v6) := by rw [(bcell hb9).1 _ _ (by simp; omega)]; simp [go_sem, c0, z6]
  have d1 : w9.cell? ⟨w6.heap.size, 1, none⟩ = some (.int .i32 0) := by rw [(bcell hb9).1 _ _ (by simp; omega)]; simp [go_sem, c1, z6]
  have d2 : w9.cell? ⟨w8.heap.size, 0, none⟩ = some (.iface T8 v8) := by rw [(bcell hb9).1 _ _ (by simp)]; simp
  have d3 : w9.cell? ⟨w8.heap.size, 1, none⟩ = some (.int .i32 0) := by rw [(bcell hb9).1 _ _ (by simp)]; simp
  have hb89 : Below w8.heap.size w8 w9 := W0'.out.trans (hb9.mono (by simp))
  have J2 := zzboth_any w9 (.iface T8 v8) (.iface T6 v6) (pickS a5 B) (pickS a1 A) (pickN a5 len4) (pickN a1 len0) (pickN a5 d) (pickN a1 c) a5 a1 (G8.out.later (ext_of_below hb89)) (G6.out.later (ext_of_below (X8.out.trans (hb89.mono X8.out.size))))
  rw [Bool.and_comm a5 a1, (pkS a1 a5 B).2, (pkS a1 a5 A).1, (pkN a1 a5 len4).2, (pkN a1 a5 len0).1, (pkN a1 a5 d).2, (pkN a1 a5 c).1] at J2
  have K2 := Lib.hid J2
  have H89 := Lib.hid hb89
  clear J2 K1 hb9 hb89 c0 c1
  generalize hok : (a1 && a5) = ok at K2
  go_wp2_with fail
  refine K2.out.mono ?_
  rintro e w10 ⟨rfl, hb10⟩
  have hb810 := H89.out.trans (hb10.mono H89.out.size)
  have hb410 := B48.out.trans (hb810.mono B48.out.size)
  have SA := Lib.hid (nice_of ok (later_ sA4 hb410))
  have SB := Lib.hid (nice_of ok (later_ sB4 hb410))
  have B410 := Lib.hid hb410
  clear K2 hb10 hb810 hb410 d0 d1 d2 d3 sA4 sB4
  go_wp2_with fail
  refine (same_self _ _ _ _ _ _ SA.out (pickN_le ok b0)).mono ?_
  rintro e w11 ⟨rfl, q11, rfl⟩
  go_wp2_with fail
  refine (same_self _ _ _ _ _ (w10.drewN q11) SB.out (pickN_le ok b4)).mono ?_
  rintro e w12 ⟨rfl, q12, rfl⟩
  go_wp2_with fail
  go_ret
  exact ⟨rfl, by repeat (first | apply below_drewN | exact B04.out.trans (B410.out.mono B04.out.size))⟩

/-! ### THE ROW's STEP: WRITTEN OUT: LEAVE IT -/
set_option maxRecDepth 100000 in
theorem lifted (os : Os) (started : os.Started) (H : Type) (enc : TypeId × Value → H) :
    ReturnsInHanded {} Try.checked os 3 .any (Rows.fnExtractStringValuesSwapSpec.pre6 enc Try.prog Try.f3 Rows.fnExtractStringValuesSwapRow.domain false) (Rows.fnExtractStringValuesSwapSpec.post enc Try.prog Try.f3 false true false false) := by
  refine returnsInHanded_of_change (C := Try.checked) own started (by kernel_rfl) Try.func3
    (ChangeSpec.witness6 (enc := enc) (C := Try.checked) false ⟨#[], #[.slice none 0 0, .bool false, .float .f64 0, .slice none 0 0, .slice none 0 0, .bool false, .float .f64 0, .slice none 0 0], []⟩ 8 (by kernel_rfl) (by kernel_rfl) (by kernel_rfl) (by kernel_rfl)) ?_
  intro W base args ds gs before hval0 hW hcnd _
  have hval : ∀ (j : Nat) t v, Try.f3.params[j]? = some t → args[j]? = some v → Value.okWide Try.prog W .any base t v := hval0
  have hW' := hW
  obtain ⟨p, q, hA0, hV, rfl, hfz, hnd⟩ := hW
  have hA : DataW.TrodAll enc Try.prog W 0 (fun _ => true) true Try.f3.params.toList args.toList ds p := hA0
  rw [Try.params3] at hA hval
  obtain ⟨v0, vs0, d0, ds0, p0, q0, hargs, rfl, rfl, h0, r0⟩ := trodAll_cons hA
  obtain ⟨v1, vs1, d1, ds1, p1, q1, rfl, rfl, rfl, h1, r1⟩ := trodAll_cons r0
  obtain ⟨v2, vs2, d2, ds2, p2, q2, rfl, rfl, rfl, h2, r2⟩ := trodAll_cons r1
  obtain ⟨v3, vs3, d3, ds3, p3, q3, rfl, rfl, rfl, h3, r3⟩ := trodAll_cons r2
  obtain ⟨v4, vs4, d4, ds4, p4, q4, rfl, rfl, rfl, h4, r4⟩ := trodAll_cons r3
  obtain ⟨v5, vs5, d5, ds5, p5, q5, rfl, rfl, rfl, h5, r5⟩ := trodAll_cons r4
  obtain ⟨v6, vs6, d6, ds6, p6, q6, rfl, rfl, rfl, h6, r6⟩ := trodAll_cons r5
  obtain ⟨v7, vs7, d7, ds7, p7, q7, rfl, rfl, rfl, h7, r7⟩ := trodAll_cons r6
  obtain ⟨rfl, rfl, rfl⟩ := trodAll_nil r7
  obtain rfl : args = #[v0, v1, v2, v3, v4, v5, v6, v7] := by cases args; simp_all
  obtain ⟨rfl, rfl⟩ := trodVars_none hV
  obtain ⟨a0, len0, cap0, rfl⟩ := okWide_slice Try.underlying22 (hval 0 22 v0 rfl rfl)
  have k0 := h0
  have lt0 : ∀ x ∈ p0, x.block < W.heap.size := by obtain ⟨m, hm⟩ := k0; exact DataW.trod_lt m _ _ _ hm
  obtain ⟨z0, w0⟩ : ∃ zs, IsRow (Value.int .u16) (fun n => (Lit.int .u16 n).wf = true) W a0 len0 cap0 zs := by
    obtain ⟨fuel, hf⟩ := h0
    exact isRow_of (Value.int .u16) (fun n => (Lit.int .u16 n).wf = true) 0 Try.underlying22 (by kernel_rfl) hf (fun n v z hz => by obtain ⟨u, h1, _, h3⟩ := DataW.trod_int Try.underlying40 hz; exact ⟨u, by simpa using h1, h3⟩)
  obtain ⟨a1, rfl, rfl, rfl⟩ := open_bool Try.underlying4 (hval 1 4 v1 rfl rfl) h1
  obtain ⟨a2, rfl, rfl, rfl, w2⟩ := open_float Try.underlying23 (hval 2 23 v2 rfl rfl) h2
  obtain ⟨a3, len3, cap3, rfl⟩ := okWide_slice Try.underlying24 (hval 3 24 v3 rfl rfl)
  have k3 := h3
  have lt3 : ∀ x ∈ p3, x.block < W.heap.size := by obtain ⟨m, hm⟩ := k3; exact DataW.trod_lt m _ _ _ hm
  obtain ⟨z3, w3⟩ : ∃ zs, IsRow Value.bool (fun _ => True) W a3 len3 cap3 zs := by
    obtain ⟨fuel, hf⟩ := h3
    exact isRow_of Value.bool (fun _ => True) false Try.underlying24 (by kernel_rfl) hf (fun n v z hz => by obtain ⟨u, h1, _⟩ := DataW.trod_bool Try.underlying4 hz; exact ⟨u, by simpa using h1, trivial⟩)
  obtain ⟨a4, len4, cap4, rfl⟩ := okWide_slice Try.underlying22 (hval 4 22 v4 rfl rfl)
  have k4 := h4
  have lt4 : ∀ x ∈ p4, x.block < W.heap.size := by obtain ⟨m, hm⟩ := k4; exact DataW.trod_lt m _ _ _ hm
  obtain ⟨z4, w4⟩ : ∃ zs, IsRow (Value.int .u16) (fun n => (Lit.int .u16 n).wf = true) W a4 len4 cap4 zs := by
    obtain ⟨fuel, hf⟩ := h4
    exact isRow_of (Value.int .u16) (fun n => (Lit.int .u16 n).wf = true) 0 Try.underlying22 (by kernel_rfl) hf (fun n v z hz => by obtain ⟨u, h1, _, h3⟩ := DataW.trod_int Try.underlying40 hz; exact ⟨u, by simpa using h1, h3⟩)
  obtain ⟨a5, rfl, rfl, rfl⟩ := open_bool Try.underlying4 (hval 5 4 v5 rfl rfl) h5
  obtain ⟨a6, rfl, rfl, rfl, w6⟩ := open_float Try.underlying23 (hval 6 23 v6 rfl rfl) h6
  obtain ⟨a7, len7, cap7, rfl⟩ := okWide_slice Try.underlying24 (hval 7 24 v7 rfl rfl)
  have k7 := h7
  have lt7 : ∀ x ∈ p7, x.block < W.heap.size := by obtain ⟨m, hm⟩ := k7; exact DataW.trod_lt m _ _ _ hm
  obtain ⟨z7, w7⟩ : ∃ zs, IsRow Value.bool (fun _ => True) W a7 len7 cap7 zs := by
    obtain ⟨fuel, hf⟩ := h7
    exact isRow_of Value.bool (fun _ => True) false Try.underlying24 (by kernel_rfl) hf (fun n v z hz => by obtain ⟨u, h1, _⟩ := DataW.trod_bool Try.underlying4 hz; exact ⟨u, by simpa using h1, trivial⟩)
  clear hA0 hval0
  refine (walk a0 len0 cap0 z0 a1 a2 a3 len3 cap3 z3 a4 len4 cap4 z4 a5 a6 a7 len7 cap7 z7 W w0 w2 w3 w4 w6 w7).mono fun e W' ⟨he, bel⟩ => ?_
  subst he
  exact ⟨_, rfl, _, _, _, [], _, [], hW', trodAll_mk1 (shut_bool Try.underlying4 _), (trodAll_cons_mk (Below.trod laidOut (by kernel_rfl) (of_decide_eq_true (by kernel_rfl)) k0 bel lt0) (trodAll_cons_mk (shut_bool Try.underlying4 _) (trodAll_cons_mk (shut_float Try.underlying23 w2) (trodAll_cons_mk (Below.trod laidOut (by kernel_rfl) (of_decide_eq_true (by kernel_rfl)) k3 bel lt3) (trodAll_cons_mk (Below.trod laidOut (by kernel_rfl) (of_decide_eq_true (by kernel_rfl)) k4 bel lt4) (trodAll_cons_mk (shut_bool Try.underlying4 _) (trodAll_cons_mk (shut_float Try.underlying23 w6) (trodAll_cons_mk (Below.trod laidOut (by kernel_rfl) (of_decide_eq_true (by kernel_rfl)) k7 bel lt7) trodAll_mk0)))))))), rfl, bel.frame _, fun h => by cases h⟩

theorem over : Rows.fnExtractStringValuesSwapRow.holds Try.pinned (OpenSpec.ofChange Rows.fnExtractStringValuesSwapSpec) :=
  OpenClaim.holds_of_wide 3 Try.f3 rfl rfl rfl rfl rfl rfl rfl ⟨rfl, rfl, rfl, rfl, rfl⟩ rfl rfl rfl rfl rfl (by kernel_rfl) Try.func3 (by kernel_rfl)
    (of_decide_eq_true (by kernel_rfl)) (by unfold Func.isWrapper; first | (rw [if_pos (by decide +kernel)]; kernel_rfl) | (rw [if_neg (by decide +kernel)]; exact ⟨rfl, rfl⟩))
    (fun os started H enc _ => lifted os started H enc)

/-- THE STATEMENT -/
theorem proved : Rows.FnExtractStringValuesSwapSaid := over
#print axioms proved
end Go.Proofs.Ythcjcafillcikab.fnExtractStringValuesSwap
