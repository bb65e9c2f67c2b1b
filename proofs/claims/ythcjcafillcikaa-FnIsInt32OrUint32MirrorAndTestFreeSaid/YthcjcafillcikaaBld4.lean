/-
  Lemmas shared by several laws of this seat; no statement of their own.
-/
import Derived.Test.YthcjcafillcikaaRows
import Derived.WalkKit
import Derived.ProofKit
import Derived.OpenShut
import Derived.Test.YthcjcafillcikaaSlW
import Derived.Test.YthcjcafillcikaaExtW
import Derived.Test.YthcjcafillcikaaI32
import Derived.Test.YthcjcafillcikaaBld
import Derived.Test.YthcjcafillcikaaBld6
import Derived.Test.YthcjcafillcikaaBld7
import Derived.WalkLawsBesides
import Derived.WalkSpells
import Derived.Below
import Derived.Lib.Hide
import Derived.Outline
import Derived.Deep.Cut
namespace Go.Proofs.Ythcjcafillcikaa
open Go.ChangeShapes Go.WideShapes Go.ChangeAt Go.RowKit

set_option linter.unusedVariables false

/-- The four boxes of zzBuild's conditional arm. -/
structure Four (w : World) (H : Nat) (dt dy dn : Value) : Prop where
  r : At w H .nilIface
  t : At w (H + 1) dt
  y : At w (H + 1 + 1) dy
  n : At w (H + 1 + 1 + 1) dn
theorem Four.below {w w1 : World} {H B : Nat} {a b c : Value} (h : Four w H a b c) (hb : Below B w w1) (hB : H + 1 + 1 + 1 < B) : Four w1 H a b c :=
  ⟨h.r.below hb (by omega), h.t.below hb (by omega), h.y.below hb (by omega), h.n.below hb (by omega)⟩
theorem At.set {w : World} {b : Nat} {d : Value} (d' : Value) (h : At w b d) : At ((w.setCell ⟨b, 0, none⟩ d').setCell ⟨b, 1, none⟩ (.int .i32 0)) b d' := by
  obtain ⟨c0, c1, f0, f1⟩ := h
  constructor <;> simp [go_sem, *]
theorem At.far {w : World} {b b' : Nat} {d d' : Value} (h : At w b d) (hn : b ≠ b') : At ((w.setCell ⟨b', 0, none⟩ d').setCell ⟨b', 1, none⟩ (.int .i32 0)) b d := by
  obtain ⟨c0, c1, f0, f1⟩ := h
  have hn' := Ne.symm hn
  constructor <;> simp [go_sem, *]
theorem Four.setT {w : World} {H : Nat} {a b c : Value} (d : Value) (h : Four w H a b c) : Four ((w.setCell ⟨H + 1, 0, none⟩ d).setCell ⟨H + 1, 1, none⟩ (.int .i32 0)) H d b c :=
  ⟨h.r.far (by omega), h.t.set d, h.y.far (by omega), h.n.far (by omega)⟩
theorem Four.setY {w : World} {H : Nat} {a b c : Value} (d : Value) (h : Four w H a b c) : Four ((w.setCell ⟨H + 1 + 1, 0, none⟩ d).setCell ⟨H + 1 + 1, 1, none⟩ (.int .i32 0)) H a d c :=
  ⟨h.r.far (by omega), h.t.far (by omega), h.y.set d, h.n.far (by omega)⟩
theorem Four.setN {w : World} {H : Nat} {a b c : Value} (d : Value) (h : Four w H a b c) : Four ((w.setCell ⟨H + 1 + 1 + 1, 0, none⟩ d).setCell ⟨H + 1 + 1 + 1, 1, none⟩ (.int .i32 0)) H a b d :=
  ⟨h.r.far (by omega), h.t.far (by omega), h.y.far (by omega), h.n.set d⟩
set_option maxHeartbeats 2000000 in
set_option maxRecDepth 100000 in
theorem if_any (b off n c : Nat) (cs : List Int) (mi : Bool) (i : Nat) (r1 r2 r3 : Bool × Nat) (x : Int) (w : World) (hs : Sl w w.heap.size (some ⟨b, off, none⟩) n (cs.map (Value.int .u8))) (hi : i < n) (hn : n ≤ 9223372036854775807) (hx : w.cell? ⟨b, off + i, none⟩ = some (.int .u8 x)) (x0 : 0 ≤ x) (x1 : x ≤ 255) (hb : b < w.heap.size) (hk : x % 8 = 4) (i1 : Does b off n c cs mi (i + 1) r1) (i2 : Does b off n c cs mi r1.2 r2) (i3 : Does b off n c cs mi r2.2 r3) :
    Calls Try.prog 8 #[.slice (some ⟨b, off, none⟩) n c, .int .i64 i, .bool mi] w (Res (r2.1 && r3.1, r3.2) w) := by
  have I1 := Lib.hid i1
  have I2 := Lib.hid i2
  have I3 := Lib.hid i3
  clear i1 i2 i3
  have E1 := Lib.hid (show ((i + 1 : Nat) : Int) = (i : Int) + 1 by omega)
  go_enter Try.func8, Try.ntmps8
  go_wp2_with fail
  rw [← E1.out]
  refine (I1.out _ (sl_later hs (((((Below.refl _ _).alloc (Nat.le_refl _) _).alloc (by simp) _).alloc (by simp <;> omega) _).alloc (by simp <;> omega) _))).mono ?_
  rintro e w1 ⟨T1, v1, rfl, g1, hb1⟩
  clear g1
  have z1 : w.heap.size + 1 + 1 + 1 < w1.heap.size := by have := hb1.size; simp at this; omega
  have F1 : Four w1 w.heap.size .nilIface .nilIface .nilIface := Four.below (by constructor <;> constructor <;> simp [go_sem]) hb1 (by simp)
  have BL1 := Lib.hid ((((((Below.refl _ _).alloc (Nat.le_refl _) _).alloc (by simp) _).alloc (by simp <;> omega) _).alloc (by simp <;> omega) _).trans (hb1.mono (by simp <;> omega)) : Below w.heap.size w w1)
  clear hb1
  have G := Lib.hid F1
  obtain ⟨⟨c0, c1, f0, f1⟩, ⟨d0, d1, h0, h1⟩, ⟨e0, e1, k0, k1⟩, ⟨m0, m1, l0, l1⟩⟩ := F1
  go_wp2_with fail
  have bl1 := Lib.hid ((BL1.out.setCell (p := ⟨w.heap.size + 1, 0, none⟩) (by simp) (.iface T1 v1)).setCell (p := ⟨w.heap.size + 1, 1, none⟩) (by simp) (.int .i32 0))
  refine (I2.out _ (sl_later hs bl1.out)).mono ?_
  rintro e w2 ⟨T2, v2, rfl, g2, hb2⟩
  have G2 := Lib.hid (g2.mono (X := fun b => b < w1.heap.size) (fun b _ h => by simpa using h))
  clear g2
  have z2 : w1.heap.size ≤ w2.heap.size := by have := hb2.size; simpa using this
  have F2 : Four w2 w.heap.size (.iface T1 v1) .nilIface .nilIface := (G.out.setT (.iface T1 v1)).below hb2 (by simp <;> omega)
  have BL2 := Lib.hid (bl1.out.trans (hb2.mono (by simp <;> omega)) : Below w.heap.size w w2)
  clear hb2 BL1 bl1 c0 c1 f0 f1 d0 d1 h0 h1 e0 e1 k0 k1 m0 m1 l0 l1 G
  have G := Lib.hid F2
  obtain ⟨⟨c0, c1, f0, f1⟩, ⟨d0, d1, h0, h1⟩, ⟨e0, e1, k0, k1⟩, ⟨m0, m1, l0, l1⟩⟩ := F2
  go_wp2_with fail
  have bl2 := Lib.hid ((BL2.out.setCell (p := ⟨w.heap.size + 1 + 1, 0, none⟩) (by simp <;> omega) (.iface T2 v2)).setCell (p := ⟨w.heap.size + 1 + 1, 1, none⟩) (by simp <;> omega) (.int .i32 0))
  refine (I3.out _ (sl_later hs bl2.out)).mono ?_
  rintro e w3 ⟨T3, v3, rfl, g3, hb3⟩
  have G3 := Lib.hid (g3.mono (X := fun b => b < w2.heap.size) (fun b _ h => by simpa using h))
  clear g3
  have z3 : w2.heap.size ≤ w3.heap.size := by have := hb3.size; simpa using this
  have F3 : Four w3 w.heap.size (.iface T1 v1) (.iface T2 v2) .nilIface := (G.out.setY (.iface T2 v2)).below hb3 (by simp <;> omega)
  have BL3 := Lib.hid (bl2.out.trans (hb3.mono (by simp <;> omega)) : Below w.heap.size w w3)
  have EX2 := Lib.hid ((ext_set' (ext_set' (Ext.refl (fun b => b < w1.heap.size) w2) (by show _ < _; omega)) (by show _ < _; omega)).trans (ext_of_below hb3) : Ext (fun b => b < w1.heap.size) w2 w3)
  clear hb3 BL2 bl2 c0 c1 f0 f1 d0 d1 h0 h1 e0 e1 k0 k1 m0 m1 l0 l1 G
  have G := Lib.hid F3
  obtain ⟨⟨c0, c1, f0, f1⟩, ⟨d0, d1, h0, h1⟩, ⟨e0, e1, k0, k1⟩, ⟨m0, m1, l0, l1⟩⟩ := F3
  have q1 : w.heap.size + 1 + 1 + 1 < w3.heap.size := by omega
  have q2 : w.heap.size + 1 + 1 < w3.heap.size := by omega
  have q3 : w.heap.size + 1 < w3.heap.size := by omega
  have q4 : w.heap.size < w3.heap.size := by omega
  cases mi
  · go_wp2_with fail
    refine bodyPost_ret (v := .tuple #[.agg #[.iface 96 (.pointer (some ⟨w3.heap.size, 0, none⟩)), .int .i32 0], .int .i64 (r3.2 : Int)]) (by simp [results, Try.results8, go_sem, *]) rfl ⟨_, _, rfl, ?_, ?_⟩
    · refine val_if _ _ (w3.heap.size) (.iface T2 v2) (.iface T3 v3) _ _ (by simp) (by simp <;> omega) (by simp [go_sem]) (by simp [go_sem]) ?_ ?_
      · refine (G2.out.later ?_).mono (fun b _ h => by have h' : b < w.heap.size := h; show b < _; omega)
        repeat (with_reducible first | exact EX2.out | exact Ext.refl _ _ | refine ext_set' ?_ (by show _ < _; omega) | refine ext_alloc' ?_)
      · refine (G3.out.later ?_).mono (fun b _ h => by have h' : b < w.heap.size := h; show b < _; omega)
        repeat (with_reducible first | exact EX2.out | exact Ext.refl _ _ | refine ext_set' ?_ (by show _ < _; omega) | refine ext_alloc' ?_)
    · repeat (with_reducible first | exact BL3.out | refine Below.setCell ?_ (by simp <;> omega) _ | refine Below.alloc ?_ (by simp <;> omega) _)
  · go_upto_region 20 with fail
    obtain ⟨w4, hw4⟩ : ∃ w4, w4 = (w3.setCell ⟨w.heap.size + 1 + 1 + 1, 0, none⟩ (.iface T3 v3)).setCell ⟨w.heap.size + 1 + 1 + 1, 1, none⟩ (.int .i32 0) := ⟨_, rfl⟩
    rw [← hw4]
    have F4 : Four w4 w.heap.size (.iface T1 v1) (.iface T2 v2) (.iface T3 v3) := by rw [hw4]; exact G.out.setN _
    have BL4 := Lib.hid (show Below w.heap.size w w4 by rw [hw4]; exact (BL3.out.setCell (by simp <;> omega) _).setCell (by simp <;> omega) _)
    have EX4 := Lib.hid (show Ext (fun b => b < w1.heap.size) w2 w4 by rw [hw4]; exact ext_set' (ext_set' EX2.out (by show _ < _; omega)) (by show _ < _; omega))
    have EY4 := Lib.hid (show Ext (fun b => b < w2.heap.size) w3 w4 by rw [hw4]; exact ext_set' (ext_set' (Ext.refl _ _) (by show _ < _; omega)) (by show _ < _; omega))
    have z4 : w3.heap.size ≤ w4.heap.size := EY4.out.1
    clear hw4 EX2 BL3 c0 c1 f0 f1 d0 d1 h0 h1 e0 e1 k0 k1 m0 m1 l0 l1 G q1 q2 q3 q4
    have G := Lib.hid F4
    obtain ⟨⟨c0, c1, f0, f1⟩, ⟨d0, d1, h0, h1⟩, ⟨e0, e1, k0, k1⟩, ⟨m0, m1, l0, l1⟩⟩ := F4
    go_upto_region 21 with fail
    obtain ⟨w5, hw5⟩ : ∃ w5, w5 = (((w4.setCell ⟨w.heap.size + 1 + 1, 0, none⟩ (.iface T3 v3)).setCell ⟨w.heap.size + 1 + 1, 1, none⟩ (.int .i32 0)).setCell ⟨w.heap.size + 1 + 1 + 1, 0, none⟩ (.iface T2 v2)).setCell ⟨w.heap.size + 1 + 1 + 1, 1, none⟩ (.int .i32 0) := ⟨_, rfl⟩
    rw [← hw5]
    have F5 : Four w5 w.heap.size (.iface T1 v1) (.iface T3 v3) (.iface T2 v2) := by rw [hw5]; exact (G.out.setY _).setN _
    have BL5 := Lib.hid (show Below w.heap.size w w5 by rw [hw5]; exact (((BL4.out.setCell (by simp <;> omega) _).setCell (by simp <;> omega) _).setCell (by simp <;> omega) _).setCell (by simp <;> omega) _)
    have EX5 := Lib.hid (show Ext (fun b => b < w1.heap.size) w2 w5 by rw [hw5]; exact ext_set' (ext_set' (ext_set' (ext_set' EX4.out (by show _ < _; omega)) (by show _ < _; omega)) (by show _ < _; omega)) (by show _ < _; omega))
    have EY5 := Lib.hid (show Ext (fun b => b < w2.heap.size) w3 w5 by rw [hw5]; exact ext_set' (ext_set' (ext_set' (ext_set' EY4.out (by show _ < _; omega)) (by show _ < _; omega)) (by show _ < _; omega)) (by show _ < _; omega))
    have z5 : w3.heap.size ≤ w5.heap.size := EY5.out.1
    clear hw5 EX4 EY4 BL4 c0 c1 f0 f1 d0 d1 h0 h1 e0 e1 k0 k1 m0 m1 l0 l1 G
    obtain ⟨⟨c0, c1, f0, f1⟩, ⟨d0, d1, h0, h1⟩, ⟨e0, e1, k0, k1⟩, ⟨m0, m1, l0, l1⟩⟩ := F5
    have q1 : w.heap.size + 1 + 1 + 1 < w5.heap.size := by omega
    have q2 : w.heap.size + 1 + 1 < w5.heap.size := by omega
    have q3 : w.heap.size + 1 < w5.heap.size := by omega
    have q4 : w.heap.size < w5.heap.size := by omega
    go_wp2_with fail
    refine bodyPost_ret (v := .tuple #[.agg #[.iface 96 (.pointer (some ⟨w5.heap.size + 1, 0, none⟩)), .int .i32 0], .int .i64 (r3.2 : Int)]) (by simp [results, Try.results8, go_sem, *]) rfl ⟨_, _, rfl, ?_, ?_⟩
    · show Val _ _ _ (r2.1 && r3.1)
      rw [Bool.and_comm]
      refine val_if _ _ (w5.heap.size + 1) (.iface T3 v3) (.iface T2 v2) _ _ (by simp) (by simp <;> omega) (by simp [go_sem]) (by simp [go_sem]) ?_ ?_
      · refine (G3.out.later ?_).mono (fun b _ h => by have h' : b < w.heap.size := h; show b < _; omega)
        repeat (with_reducible first | exact EX5.out | exact EY5.out | refine ext_set' ?_ (by show _ < _; omega) | refine ext_alloc' ?_)
      · refine (G2.out.later ?_).mono (fun b _ h => by have h' : b < w.heap.size := h; show b < _; omega)
        repeat (with_reducible first | exact EX5.out | exact EY5.out | refine ext_set' ?_ (by show _ < _; omega) | refine ext_alloc' ?_)
    · repeat (with_reducible first | exact BL5.out | refine Below.setCell ?_ (by simp <;> omega) _ | refine Below.alloc ?_ (by simp <;> omega) _)

end Go.Proofs.Ythcjcafillcikaa
