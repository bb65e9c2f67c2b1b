/-
  For every two identifiers, two slices of bytes and two slices of strings the law FnValuesLookTheSameOnAccessChainsComparesRootAndKeys returns true and leaves its arguments as they were; no condition.
  The frame of this text was written by the kit's program proof-skeleton.mjs for this statement; the walk and its lemmas are the prover's.
-/
import Derived.Test.YtdjiekejkjgamaaRows
import Derived.WalkKit
import Derived.ProofKit
import Derived.OpenShut
import Derived.Test.YtdjiekejkjgamaaSlW
import Derived.Test.YtdjiekejkjgamaaExtW
import Derived.Test.YtdjiekejkjgamaaAcU
import Derived.Test.YtdjiekejkjgamaaAcR
import Derived.Test.YtdjiekejkjgamaaAcV
import Derived.Test.YtdjiekejkjgamaaAcI
import Derived.Test.YtdjiekejkjgamaaAcB
import Derived.Test.YtdjiekejkjgamaaAcC
import Derived.Test.YtdjiekejkjgamaaAcK
import Derived.Test.YtdjiekejkjgamaaAcT
import Derived.Test.YtdjiekejkjgamaaAcS
import Derived.Test.YtdjiekejkjgamaaCl8x168
import Derived.Test.YtdjiekejkjgamaaClSx168
import Derived.DataReads
import Derived.WalkSpells
import Derived.Deep.QuietTactic
import Derived.BigQuiet
import Derived.ShutString
import Derived.ChangeOld
import Derived.Below
import Derived.WalkLawsBesides
import Derived.Deep.Slices
import Derived.Laws.Cover2
namespace Go.Proofs.Ytdjiekejkjgamaa.fnValuesLookTheSameOnAccessChainsComparesRootAndKeys
open Go.ChangeShapes Go.WideShapes Go.ChangeAt Go.RowKit
open Go.ChangeMaps (open_string shut_string)
open Go.Deep (open_slice1)
set_option linter.unusedVariables false

theorem own : ownKnob Try.prog.godebug = none := by kernel_rfl
theorem laidOut : laidOutB Try.prog = true := by kernel_rfl

def IsRow {α : Type} (φ : α → Value) (ok : α → Prop) (w : World) (a : Option Addr) (len cap : Nat) (zs : List α) : Prop :=
  (a = none ∧ len = 0 ∧ cap = 0 ∧ zs = []) ∨
  ∃ x, a = some x ∧ len ≤ cap ∧ cap ≤ maxLen ∧ zs.length = len ∧ (∀ i (h : i < zs.length), w.cell? (x.add i) = some (φ zs[i])) ∧ ∀ n ∈ zs, ok n

theorem isRow_of {α : Type} {H : Type} {enc : TypeId × Value → H} {P : Program} {w : World} {held : Bool} {t e : TypeId} {fuel : Nat} {a : Option Addr} {len cap : Nat} {y : DataW H × List MemPlace} (φ : α → Value) (ok : α → Prop) (d0 : α) (ht : P.underlying t = some (.slice e)) (hc : P.cellsOf e = 1)
    (h : DataW.trod enc P w 0 (fun _ => true) held fuel t (Value.slice a len cap).cells.toList = some y)
    (each : ∀ (n : Nat) (v : Value) (z : DataW H × List MemPlace), DataW.trod enc P w 0 (fun _ => true) held n e [v] = some z → ∃ u, v = φ u ∧ ok u) : ∃ zs, IsRow φ ok w a len cap zs := by
  rcases open_slice1 ht hc h with ⟨hcs, _⟩ | ⟨x, l, c, m, n, V, D, Pl, hcs, _, hl, hm, hmm, hy, hx⟩
  · simp [Value.cells] at hcs
    obtain ⟨rfl, rfl, rfl⟩ := hcs
    exact ⟨[], .inl ⟨rfl, rfl, rfl, rfl⟩⟩
  · simp [Value.cells] at hcs
    obtain ⟨rfl, rfl, rfl⟩ := hcs
    simp only [if_true] at hmm
    subst hmm
    have hex : ∀ i, ∃ u, i < len → V i = φ u ∧ ok u := by
      intro i
      by_cases hi : i < len
      · obtain ⟨u, h1, h2⟩ := each n (V i) _ (hx i (by omega)).2
        exact ⟨u, fun _ => ⟨h1, h2⟩⟩
      · exact ⟨d0, fun h => absurd h hi⟩
    refine ⟨(List.range len).map fun i => Classical.choose (hex i), .inr ⟨x, rfl, hl, hm, by simp, ?_, ?_⟩⟩
    · intro i hi
      simp at hi
      rw [(hx i (by omega)).1, (Classical.choose_spec (hex i) hi).1]
      simp
    · intro u hu
      simp at hu
      obtain ⟨i, hi, rfl⟩ := hu
      exact (Classical.choose_spec (hex i) hi).2

theorem block_lt {w : World} {a : Addr} {v : Value} (h : w.cell? a = some v) : a.block < w.heap.size := by
  rcases Nat.lt_or_ge a.block w.heap.size with hlt | hge
  · exact hlt
  · simp [World.cell?, Array.getElem?_eq_none hge] at h
theorem sl_of_row {α : Type} {φ : α → Value} {ok : α → Prop} {w : World} {a : Option Addr} {len cap : Nat} {zs : List α} (h : IsRow φ ok w a len cap zs) : Sl w w.heap.size a len (zs.map φ) ∧ (a = none → len = 0 ∧ cap = 0) ∧ ∀ n ∈ zs, ok n := by
  rcases h with ⟨rfl, rfl, rfl, rfl⟩ | ⟨x, rfl, _, _, hl, hc, ho⟩
  · exact ⟨Sl.empty, fun _ => ⟨rfl, rfl⟩, fun _ h => by cases h⟩
  · refine ⟨⟨by simpa using hl, fun hn => ?_⟩, (fun h => by cases h), ho⟩
    have h0 := hc 0 (by omega)
    have hx : x.add 0 = x := by simp [Addr.add]
    rw [hx] at h0
    have hs := World.cell?_spot h0
    have hb := block_lt h0
    obtain ⟨b, off, sp⟩ := x
    simp at hs
    subst hs
    refine ⟨b, off, rfl, hb, fun j u hu => ?_⟩
    simp at hu
    obtain ⟨y, hy, rfl⟩ := hu
    have hj : j < zs.length := (List.getElem?_eq_some_iff.1 hy).1
    have := hc j hj
    rw [(List.getElem?_eq_some_iff.1 hy).2] at this
    rw [← this]
    unfold Addr.add
    split
    · rename_i h; simp [h]
    · rfl
theorem len_le {α : Type} {φ : α → Value} {ok : α → Prop} {w : World} {a : Option Addr} {len cap : Nat} {zs : List α} (h : IsRow φ ok w a len cap zs) : len ≤ 9223372036854775807 := by
  rcases h with ⟨rfl, rfl, rfl, rfl⟩ | ⟨x, rfl, h1, h2, _⟩
  · omega
  · unfold maxLen at h2; omega
theorem ok_u8 {w : World} {a : Option Addr} {len cap : Nat} {zs : List Int} (h : IsRow (Value.int .u8) (fun n => (Lit.int .u8 n).wf = true) w a len cap zs) : ∀ x ∈ zs, 0 ≤ x ∧ x ≤ 255 := by
  rcases h with ⟨rfl, rfl, rfl, rfl⟩ | ⟨x, rfl, _, _, hl, hc, hz⟩
  · simp
  · intro y hy; exact bounds_u8 (hz y hy)
theorem below_drewN {B : Nat} {w w' : World} (h : Below B w w') (q : Nat) : Below B w (w'.drewN q) := ⟨h.1, h.2, h.3, h.4, h.5⟩
theorem later_ {w w' : World} {A : Option Addr} {n : Nat} {zs : List Value} (h : Sl w w.heap.size A n zs) (hb : Below w.heap.size w w') : Sl w' w'.heap.size A n zs := (h.below hb).more hb.size
def Made (w : World) (n : Nat) (zs : List Value) (e : Ending) (w' : World) : Prop := ∃ A c, e = .returned (.slice A n c) ∧ Sl w' w'.heap.size A n zs ∧ Below w.heap.size w w'
theorem made8 (A : Option Addr) (n c : Nat) (us : List Int) (w : World) (hs : Sl w w.heap.size A n (us.map (Value.int .u8))) (hn : n ≤ big20) (hnil : A = none → n = 0 ∧ c = 0) :
    Calls Try.prog 6 #[.slice A n c] w (Made w n (us.map (Value.int .u8))) :=
  (clone_u8 A n c us w hs hn hnil).mono fun e w' h => by
    rcases h with ⟨rfl, h1, rfl⟩ | ⟨_, h1, rfl⟩
    · obtain ⟨rfl, rfl⟩ := hnil rfl
      exact ⟨_, _, h1, hs, Below.refl _ _⟩
    · have := Sl.new w 5 (us.map (Value.int .u8)) (w.alloc (.cells (us.map (Value.int .u8)).toArray 5)).heap.size (by simp)
      rw [hs.1] at this
      exact ⟨_, _, h1, this, (Below.refl _ _).alloc (Nat.le_refl _) _⟩
theorem madeS (A : Option Addr) (n c : Nat) (us : List ByteArray) (w : World) (hs : Sl w w.heap.size A n (us.map Value.string)) (hn : n ≤ big20) (hnil : A = none → n = 0 ∧ c = 0) :
    Calls Try.prog 7 #[.slice A n c] w (Made w n (us.map Value.string)) :=
  (clone_str A n c us w hs hn hnil).mono fun e w' h => by
    rcases h with ⟨rfl, h1, rfl⟩ | ⟨_, h1, rfl⟩
    · obtain ⟨rfl, rfl⟩ := hnil rfl
      exact ⟨_, _, h1, hs, Below.refl _ _⟩
    · have := Sl.new w 9 (us.map Value.string) (w.alloc (.cells (us.map Value.string).toArray 9)).heap.size (by simp)
      rw [hs.1] at this
      exact ⟨_, _, h1, this, (Below.refl _ _).alloc (Nat.le_refl _) _⟩
theorem stepEq_comm (a b : Int × ByteArray) : stepEq a b = stepEq b a := by
  unfold stepEq
  rw [Bool.eq_iff_iff]
  simp
  constructor
  · rintro ⟨h1, h2⟩; exact ⟨h1.symm, h2.elim (fun h => .inl (by omega)) (fun h => .inr h.symm)⟩
  · rintro ⟨h1, h2⟩; exact ⟨h1.symm, h2.elim (fun h => .inl (by omega)) (fun h => .inr h.symm)⟩
theorem eqs_comm : ∀ (a b : List (Int × ByteArray)), eqs a b = eqs b a
  | [], [] => rfl
  | [], _ :: _ => rfl
  | _ :: _, [] => rfl
  | x :: a, y :: b => by unfold eqs; rw [stepEq_comm, eqs_comm a b]
theorem beq_comm' (a b : Int) : (a == b) = (b == a) := by
  by_cases h : a = b
  · subst h; rfl
  · rw [beq_eq_false_iff_ne.2 h, beq_eq_false_iff_ne.2 (fun e => h e.symm)]
def want (ra rb : Int) (sa sb : List (Int × ByteArray)) : Bool := eqs sa sb && ra == rb
theorem want_comm (ra rb : Int) (sa sb : List (Int × ByteArray)) : (eqs sb sa && rb == ra) = want ra rb sa sb := by unfold want; rw [eqs_comm sb sa, beq_comm' rb ra]

set_option maxRecDepth 100000 in
set_option maxHeartbeats 4000000 in
theorem walk (a0 : Int) (a1 : Option Addr) (len1 cap1 : Nat) (z1 : List Int) (a2 : Option Addr) (len2 cap2 : Nat) (z2 : List ByteArray) (a3 : Int) (a4 : Option Addr) (len4 cap4 : Nat) (z4 : List Int) (a5 : Option Addr) (len5 cap5 : Nat) (z5 : List ByteArray) (w : World) (w0 : (Lit.int .u32 a0).wf = true) (w1 : IsRow (Value.int .u8) (fun n => (Lit.int .u8 n).wf = true) w a1 len1 cap1 z1) (w2 : IsRow Value.string (fun s => s.size ≤ maxLen) w a2 len2 cap2 z2) (w3 : (Lit.int .u32 a3).wf = true) (w4 : IsRow (Value.int .u8) (fun n => (Lit.int .u8 n).wf = true) w a4 len4 cap4 z4) (w5 : IsRow Value.string (fun s => s.size ≤ maxLen) w a5 len5 cap5 z5) :
    Calls Try.prog 3 #[.int .u32 a0, .slice a1 len1 cap1, .slice a2 len2 cap2, .int .u32 a3, .slice a4 len4 cap4, .slice a5 len5 cap5] w fun e w' => e = .returned (.bool true) ∧ Below w.heap.size w w' := by
  obtain ⟨zz5, hzz5⟩ : ∃ zz, zz = z5 := ⟨_, rfl⟩
  subst hzz5
  have l1 := len_le w1
  have l2 := len_le w2
  have l4 := len_le w4
  have l5 := len_le w5
  obtain ⟨s1, n1, o1⟩ := sl_of_row w1
  obtain ⟨s2, n2, o2⟩ := sl_of_row w2
  obtain ⟨s4, n4, o4⟩ := sl_of_row w4
  obtain ⟨s5, n5, o5⟩ := sl_of_row w5
  have N1 := Lib.hid n1
  have N2 := Lib.hid n2
  have N4 := Lib.hid n4
  have N5 := Lib.hid n5
  have O1 := Lib.hid (ok_u8 w1)
  have O4 := Lib.hid (ok_u8 w4)
  have K := Lib.hid (bytes_any a0 a3 a1 a2 a4 a5 len1 len2 len4 len5 cap1 cap2 cap4 cap5 z2 zz5 w s2 s5 (fun s hs => by have := o2 s hs; unfold maxLen at this; omega) (fun s hs => by have := o5 s hs; unfold maxLen at this; omega) l1 l2 l4 l5)
  clear n1 n2 n4 n5 o1 o2 o4 o5 w0 w1 w2 w3 w4 w5
  go_enter Try.func3, Try.ntmps3
  go_wp2_with fail
  refine K.out.mono ?_
  rintro e w1 ⟨b, rfl, rfl, hq⟩
  cases b
  · go_wp2_with fail
    go_ret
    exact ⟨rfl, Below.refl _ _⟩
  obtain ⟨b1, b2, b4, b5, q2, q5⟩ := hq rfl
  clear hq K
  have Q2 := Lib.hid q2
  have Q5 := Lib.hid q5
  clear q2 q5
  have L1 := Lib.hid (big20_le b1)
  have TA := Lib.hid (tot_any a1 a2 len1 len2 cap1 cap2 z2 w s2 Q2.out (big20_le b1) (big20_le b2))
  have TB := Lib.hid (tot_any a4 a5 len4 len5 cap4 cap5 zz5 w s5 Q5.out (big20_le b4) (big20_le b5))
  go_wp2_with fail
  refine TA.out.mono ?_
  rintro e w1 ⟨t1, rfl, t10, t11, rfl⟩
  go_wp2_with fail
  refine TB.out.mono ?_
  rintro e w1 ⟨t2, rfl, t20, t21, rfl⟩
  clear TA TB
  go_wp2_with fail
  all_goals try (go_ret; exact ⟨rfl, Below.refl _ _⟩)
  have m1 : len1 ≤ 65536 := by omega
  have m2 : len2 ≤ 65536 := by omega
  have m4 : len4 ≤ 65536 := by omega
  have m5 : len5 ≤ 65536 := by omega
  refine (made8 a1 len1 cap1 z1 w s1 b1 N1.out).mono ?_
  rintro e w1 ⟨A, c, rfl, sA, hb1⟩
  go_wp2_with fail
  refine (madeS a2 len2 cap2 z2 w1 (later_ s2 hb1) b2 N2.out).mono ?_
  rintro e w2 ⟨D, c', rfl, sD, hb2⟩
  have hb02 := hb1.trans (hb2.mono hb1.size)
  go_wp2_with fail
  refine (made8 a4 len4 cap4 z4 w2 (later_ s4 hb02) b4 N4.out).mono ?_
  rintro e w3 ⟨B, d, rfl, sB, hb3⟩
  have hb03 := hb02.trans (hb3.mono hb02.size)
  go_wp2_with fail
  refine (madeS a5 len5 cap5 zz5 w3 (later_ s5 hb03) b5 N5.out).mono ?_
  rintro e w4 ⟨E, d', rfl, sE, hb4⟩
  have hb04 := hb03.trans (hb4.mono hb03.size)
  have sA4 := later_ (later_ (later_ sA hb2) hb3) hb4
  have sD4 := later_ (later_ sD hb3) hb4
  have sB4 := later_ sB hb4
  clear s1 s2 s4 s5 sA sB sD hb1 hb2 hb3 hb02 hb03 hb4
  have B04 := Lib.hid hb04
  clear hb04
  go_wp2_with fail
  refine (chain_any a0 A D len1 len2 c c' z1 z2 w4 sA4 sD4 O1.out Q2.out m1 m2).mono ?_
  rintro e w5 ⟨T5, v5, A5, n5, c5, rfl, r5, hb5⟩
  go_wp2_with fail
  obtain ⟨u5, hu5⟩ : ∃ u5, u5 = w5.alloc (.cells #[.iface T5 v5, .int .i32 0] 34) := ⟨_, rfl⟩
  rw [← hu5]
  have hx5 : Below w5.heap.size w5 u5 := by rw [hu5]; exact (Below.refl _ _).alloc (Nat.le_refl _) _
  have y5 := hb5.trans (hx5.mono hb5.size)
  have c5' : u5.cell? ⟨w5.heap.size, 0, none⟩ = some (.iface T5 v5) := by rw [hu5]; simp [go_sem]
  have z5 : w5.heap.size < u5.heap.size := by rw [hu5]; simp
  have R5 := Lib.hid (r5.later hx5)
  have B05 := Lib.hid (B04.out.trans (y5.mono B04.out.size))
  have sA5 := later_ sA4 y5
  have sD5 := later_ sD4 y5
  have sB5 := later_ sB4 y5
  have sE5 := later_ sE y5
  clear r5 hu5 hx5 y5 sA4 sD4 sB4 sE hb5 B04
  refine (chain_any a3 B E len4 len5 d d' z4 zz5 u5 sB5 sE5 O4.out Q5.out m4 m5).mono ?_
  rintro e w6 ⟨T6, v6, A6, n6, c6, rfl, r6, hb6⟩
  obtain ⟨u6, hu6⟩ : ∃ u6, u6 = w6.alloc (.cells #[.iface T6 v6, .int .i32 0] 34) := ⟨_, rfl⟩
  have HU := Lib.hid hu6
  have f5 : w6.cell? ⟨w5.heap.size, 0, none⟩ = some (.iface T5 v5) := by rw [(bcell hb6).1 _ _ z5]; exact c5'
  have z6 : w5.heap.size < w6.heap.size := by have := hb6.size; omega
  have hx6 : Below w6.heap.size w6 u6 := by rw [hu6]; exact (Below.refl _ _).alloc (Nat.le_refl _) _
  have y6 := hb6.trans (hx6.mono hb6.size)
  have d5 : u6.cell? ⟨w5.heap.size, 0, none⟩ = some (.iface T5 v5) := by rw [(bcell y6).1 _ _ z5]; exact c5'
  have d6 : u6.cell? ⟨w6.heap.size, 0, none⟩ = some (.iface T6 v6) := by rw [hu6]; simp [go_sem]
  have VA := Lib.hid (fun x => vl_any _ _ a0 a3 _ _ _ _ (u6.drewN x) ((R5.out.later y6).drewN x) ((r6.later hx6).drewN x))
  have VB := Lib.hid (fun x => vl_any _ _ a3 a0 _ _ _ _ (u6.drewN x) ((r6.later hx6).drewN x) ((R5.out.later y6).drewN x))
  have BL := Lib.hid (B05.out.trans (y6.mono B05.out.size))
  have sA6 := later_ sA5 y6
  have sD6 := later_ sD5 y6
  have sB6 := later_ sB5 y6
  have sE6 := later_ sE5 y6
  clear r6 hu6 hx6 y6 sA5 sD5 sB5 sE5 hb6 B05 R5 c5'
  obtain ⟨r, hr⟩ : ∃ r, r = want a0 a3 (steps z1 z2 len1) (steps z4 zz5 len4) := ⟨_, rfl⟩
  have VA' := Lib.hid (show Calls Try.prog 10 #[.iface T5 v5, .iface T6 v6] u6 (Quiet (.bool r) u6) by rw [hr]; exact VA.out 0)
  have VB' := Lib.hid (show ∀ x, Calls Try.prog 10 #[.iface T6 v6, .iface T5 v5] (u6.drewN x) (Quiet (.bool r) (u6.drewN x)) from fun x => by rw [hr, ← want_comm]; exact VB.out x)
  clear VA VB
  by_cases e0 : a0 = a3
  rotate_left
  · have e1 : (a0 == a3) = false := beq_eq_false_iff_ne.2 e0
    obtain rfl : r = false := by rw [hr]; unfold want; rw [e1]; simp
    clear hr
    go_wp2_with fail
    rw [← HU.out]; refine VA'.out.mono ?_
    rintro e w8 ⟨rfl, x8, rfl⟩
    go_wp2_with fail
    refine (VB'.out _).mono ?_
    rintro e w9 ⟨rfl, x9, rfl⟩
    go_wp2_with fail
    go_ret
    exact ⟨rfl, by repeat (first | apply below_drewN | exact BL.out)⟩
  subst e0
  by_cases e1 : len1 = len4
  · subst e1
    have hp : r = preB z1 z4 z2 zz5 len1 := by rw [hr]; unfold want; rw [eqs_steps]; simp
    have PM := pre_any A D B E len1 len2 len1 len5 c c' d d' z1 z4 z2 zz5 u6 sA6 sD6 sB6 sE6 O1.out O4.out m1 m2 m4 m5 (Nat.le_refl _)
    rw [← hp] at PM
    have PM' := Lib.hid PM
    clear PM hp hr
    cases r
    all_goals
      go_wp2_with fail
      rw [← HU.out]
      refine PM'.out.mono ?_
      rintro e w7 ⟨rfl, rfl⟩
      go_wp2_with fail
      refine VA'.out.mono ?_
      rintro e w8 ⟨rfl, x8, rfl⟩
      go_wp2_with fail
      refine (VB'.out _).mono ?_
      rintro e w9 ⟨rfl, x9, rfl⟩
      go_wp2_with fail
      go_ret
      exact ⟨rfl, by repeat (first | apply below_drewN | exact BL.out)⟩
  · obtain rfl : r = false := by rw [hr]; unfold want; rw [eqs_len _ _ (by rw [steps_len, steps_len]; exact e1)]; rfl
    clear hr
    have e2 : ((len1 : Int) == (len4 : Int)) = false := by rw [beq_eq_false_iff_ne]; omega
    have e3 : (len1 == len4) = false := by rw [beq_eq_false_iff_ne]; omega
    go_wp2_with fail
    rw [← HU.out]; refine VA'.out.mono ?_
    rintro e w8 ⟨rfl, x8, rfl⟩
    go_wp2_with fail
    refine (VB'.out _).mono ?_
    rintro e w9 ⟨rfl, x9, rfl⟩
    go_wp2_with fail
    go_ret
    exact ⟨rfl, by repeat (first | apply below_drewN | exact BL.out)⟩

/-! ### THE ROW's STEP: WRITTEN OUT: LEAVE IT -/
set_option maxRecDepth 100000 in
theorem lifted (os : Os) (started : os.Started) (H : Type) (enc : TypeId × Value → H) :
    ReturnsInHanded {} Try.checked os 3 .any (Rows.fnValuesLookTheSameOnAccessChainsComparesRootAndKeysSpec.pre6 enc Try.prog Try.f3 Rows.fnValuesLookTheSameOnAccessChainsComparesRootAndKeysRow.domain false) (Rows.fnValuesLookTheSameOnAccessChainsComparesRootAndKeysSpec.post enc Try.prog Try.f3 false true false false) := by
  refine returnsInHanded_of_change (C := Try.checked) own started (by kernel_rfl) Try.func3
    (ChangeSpec.witness6 (enc := enc) (C := Try.checked) false ⟨#[], #[.int .u32 0, .slice none 0 0, .slice none 0 0, .int .u32 0, .slice none 0 0, .slice none 0 0], []⟩ 8 (by kernel_rfl) (by kernel_rfl) (by kernel_rfl) (by kernel_rfl)) ?_
  intro W base args ds gs before hval0 hW hcnd _
  have hval : ∀ (j : Nat) t v, Try.f3.params[j]? = some t → args[j]? = some v → Value.okWide Try.prog W .any base t v := hval0
  have hW' := hW
  obtain ⟨p, q, hA0, hV, rfl, hfz, hnd⟩ := hW
  have hA : DataW.TrodAll enc Try.prog W 0 (fun _ => true) true Try.f3.params.toList args.toList ds p := hA0
  rw [Try.params3] at hA hval
  obtain ⟨v0, vs0, d0, ds0, p0, q0, hargs, rfl, rfl, h0, r0⟩ := trodAll_cons hA
  obtain ⟨v1, vs1, d1, ds1, p1, q1, rfl, rfl, rfl, h1, r1⟩ := trodAll_cons r0
  obtain ⟨v2, vs2, d2, ds2, p2, q2, rfl, rfl, rfl, h2, r2⟩ := trodAll_cons r1
  obtain ⟨v3, vs3, d3, ds3, p3, q3, rfl, rfl, rfl, h3, r3⟩ := trodAll_cons r2
  obtain ⟨v4, vs4, d4, ds4, p4, q4, rfl, rfl, rfl, h4, r4⟩ := trodAll_cons r3
  obtain ⟨v5, vs5, d5, ds5, p5, q5, rfl, rfl, rfl, h5, r5⟩ := trodAll_cons r4
  obtain ⟨rfl, rfl, rfl⟩ := trodAll_nil r5
  obtain rfl : args = #[v0, v1, v2, v3, v4, v5] := by cases args; simp_all
  obtain ⟨rfl, rfl⟩ := trodVars_none hV
  obtain ⟨a0, rfl, rfl, rfl, w0⟩ := open_int Try.underlying22 (hval 0 22 v0 rfl rfl) h0
  obtain ⟨a1, len1, cap1, rfl⟩ := okWide_slice Try.underlying23 (hval 1 23 v1 rfl rfl)
  have k1 := h1
  have lt1 : ∀ x ∈ p1, x.block < W.heap.size := by obtain ⟨m, hm⟩ := k1; exact DataW.trod_lt m _ _ _ hm
  obtain ⟨z1, w1⟩ : ∃ zs, IsRow (Value.int .u8) (fun n => (Lit.int .u8 n).wf = true) W a1 len1 cap1 zs := by
    obtain ⟨fuel, hf⟩ := h1
    exact isRow_of (Value.int .u8) (fun n => (Lit.int .u8 n).wf = true) 0 Try.underlying23 (by kernel_rfl) hf (fun n v z hz => by obtain ⟨u, h1, _, h3⟩ := DataW.trod_int Try.underlying5 hz; exact ⟨u, by simpa using h1, h3⟩)
  obtain ⟨a2, len2, cap2, rfl⟩ := okWide_slice Try.underlying24 (hval 2 24 v2 rfl rfl)
  have k2 := h2
  have lt2 : ∀ x ∈ p2, x.block < W.heap.size := by obtain ⟨m, hm⟩ := k2; exact DataW.trod_lt m _ _ _ hm
  obtain ⟨z2, w2⟩ : ∃ zs, IsRow Value.string (fun s => s.size ≤ maxLen) W a2 len2 cap2 zs := by
    obtain ⟨fuel, hf⟩ := h2
    exact isRow_of Value.string (fun s => s.size ≤ maxLen) ByteArray.empty Try.underlying24 (by kernel_rfl) hf (fun n v z hz => by obtain ⟨u, h1, _, h3⟩ := DataW.trod_string Try.underlying9 hz; exact ⟨u, by simpa using h1, h3⟩)
  obtain ⟨a3, rfl, rfl, rfl, w3⟩ := open_int Try.underlying22 (hval 3 22 v3 rfl rfl) h3
  obtain ⟨a4, len4, cap4, rfl⟩ := okWide_slice Try.underlying23 (hval 4 23 v4 rfl rfl)
  have k4 := h4
  have lt4 : ∀ x ∈ p4, x.block < W.heap.size := by obtain ⟨m, hm⟩ := k4; exact DataW.trod_lt m _ _ _ hm
  obtain ⟨z4, w4⟩ : ∃ zs, IsRow (Value.int .u8) (fun n => (Lit.int .u8 n).wf = true) W a4 len4 cap4 zs := by
    obtain ⟨fuel, hf⟩ := h4
    exact isRow_of (Value.int .u8) (fun n => (Lit.int .u8 n).wf = true) 0 Try.underlying23 (by kernel_rfl) hf (fun n v z hz => by obtain ⟨u, h1, _, h3⟩ := DataW.trod_int Try.underlying5 hz; exact ⟨u, by simpa using h1, h3⟩)
  obtain ⟨a5, len5, cap5, rfl⟩ := okWide_slice Try.underlying24 (hval 5 24 v5 rfl rfl)
  have k5 := h5
  have lt5 : ∀ x ∈ p5, x.block < W.heap.size := by obtain ⟨m, hm⟩ := k5; exact DataW.trod_lt m _ _ _ hm
  obtain ⟨z5, w5⟩ : ∃ zs, IsRow Value.string (fun s => s.size ≤ maxLen) W a5 len5 cap5 zs := by
    obtain ⟨fuel, hf⟩ := h5
    exact isRow_of Value.string (fun s => s.size ≤ maxLen) ByteArray.empty Try.underlying24 (by kernel_rfl) hf (fun n v z hz => by obtain ⟨u, h1, _, h3⟩ := DataW.trod_string Try.underlying9 hz; exact ⟨u, by simpa using h1, h3⟩)
  clear hA0 hval0
  refine (walk a0 a1 len1 cap1 z1 a2 len2 cap2 z2 a3 a4 len4 cap4 z4 a5 len5 cap5 z5 W w0 w1 w2 w3 w4 w5).mono fun e W' ⟨he, bel⟩ => ?_
  subst he
  exact ⟨_, rfl, _, _, _, [], _, [], hW', trodAll_mk1 (shut_bool Try.underlying4 _), (trodAll_cons_mk (shut_int Try.underlying22 w0) (trodAll_cons_mk (Below.trod laidOut (by kernel_rfl) (of_decide_eq_true (by kernel_rfl)) k1 bel lt1) (trodAll_cons_mk (Below.trod laidOut (by kernel_rfl) (of_decide_eq_true (by kernel_rfl)) k2 bel lt2) (trodAll_cons_mk (shut_int Try.underlying22 w3) (trodAll_cons_mk (Below.trod laidOut (by kernel_rfl) (of_decide_eq_true (by kernel_rfl)) k4 bel lt4) (trodAll_cons_mk (Below.trod laidOut (by kernel_rfl) (of_decide_eq_true (by kernel_rfl)) k5 bel lt5) trodAll_mk0)))))), rfl, bel.frame _, fun h => by cases h⟩

theorem over : Rows.fnValuesLookTheSameOnAccessChainsComparesRootAndKeysRow.holds Try.pinned (OpenSpec.ofChange Rows.fnValuesLookTheSameOnAccessChainsComparesRootAndKeysSpec) :=
  OpenClaim.holds_of_wide 3 Try.f3 rfl rfl rfl rfl rfl rfl rfl ⟨rfl, rfl, rfl, rfl, rfl⟩ rfl rfl rfl rfl rfl (by kernel_rfl) Try.func3 (by kernel_rfl)
    (of_decide_eq_true (by kernel_rfl)) (by unfold Func.isWrapper; first | (rw [if_pos (by decide +kernel)]; kernel_rfl) | (rw [if_neg (by decide +kernel)]; exact ⟨rfl, rfl⟩))
    (fun os started H enc _ => lifted os started H enc)

/-- THE STATEMENT -/
theorem proved : Rows.FnValuesLookTheSameOnAccessChainsComparesRootAndKeysSaid := over
#print axioms proved
end Go.Proofs.Ytdjiekejkjgamaa.fnValuesLookTheSameOnAccessChainsComparesRootAndKeys
