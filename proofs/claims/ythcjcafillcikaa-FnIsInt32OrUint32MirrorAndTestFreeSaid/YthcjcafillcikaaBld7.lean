/-
  Lemmas shared by several laws of this seat; no statement of their own.
-/
import Derived.Test.YthcjcafillcikaaRows
import Derived.WalkKit
import Derived.ProofKit
import Derived.OpenShut
import Derived.Test.YthcjcafillcikaaSlW
import Derived.Test.YthcjcafillcikaaExtW
import Derived.Test.YthcjcafillcikaaI32
import Derived.Test.YthcjcafillcikaaBld
import Derived.Test.YthcjcafillcikaaBld6
import Derived.WalkLawsBesides
import Derived.WalkSpells
import Derived.Below
import Derived.Lib.Hide
import Derived.StillTailTactics
import Derived.Outline
import Derived.Deep.RegionHeld3
namespace Go.Proofs.Ythcjcafillcikaa
open Go.ChangeShapes Go.WideShapes Go.ChangeAt Go.RowKit

set_option linter.unusedVariables false

theorem ext_set' {X : Nat → Prop} {w w1 : World} {b o : Nat} {v : Value} (h : Ext X w w1) (hx : X b) : Ext X w (w1.setCell ⟨b, o, none⟩ v) := h.trans (ext_set w1 b o v hx)
theorem ext_alloc' {X : Nat → Prop} {w w1 : World} {o : Obj} (h : Ext X w w1) : Ext X w (w1.alloc o) := h.trans (ext_alloc w1 o)
theorem ext_drew' {X : Nat → Prop} {w w1 : World} (h : Ext X w w1) : Ext X w w1.drew := h.trans (ext_of_below (Below.refl _ _).drew)
theorem binV_comm (op : Int) (l r : Bool) : binV op l r = binV op r l := by unfold binV; rw [Bool.and_comm]
structure At (w : World) (b : Nat) (d : Value) : Prop where
  c0 : w.cell? ⟨b, 0, none⟩ = some d
  c1 : w.cell? ⟨b, 1, none⟩ = some (.int .i32 0)
  f0 : w.frozen? ⟨b, 0, none⟩ = false
  f1 : w.frozen? ⟨b, 1, none⟩ = false
theorem At.keep {w w1 : World} {b : Nat} {d : Value} (h : At w b d) (hc : ∀ o, w1.cell? ⟨b, o, none⟩ = w.cell? ⟨b, o, none⟩) (hf : ∀ o, w1.frozen? ⟨b, o, none⟩ = w.frozen? ⟨b, o, none⟩) : At w1 b d :=
  ⟨by rw [hc]; exact h.c0, by rw [hc]; exact h.c1, by rw [hf]; exact h.f0, by rw [hf]; exact h.f1⟩
theorem At.below {w w1 : World} {b B : Nat} {d : Value} (h : At w b d) (hb : Below B w w1) (hB : b < B) : At w1 b d :=
  h.keep (fun o => hb.cell (p := ⟨b, o, none⟩) hB) (fun o => hb.frozen (p := ⟨b, o, none⟩) hB)
set_option maxHeartbeats 2000000 in
set_option maxRecDepth 100000 in
theorem bin_any (b off n c : Nat) (cs : List Int) (mi : Bool) (i : Nat) (r1 r2 : Bool × Nat) (x : Int) (w : World) (hs : Sl w w.heap.size (some ⟨b, off, none⟩) n (cs.map (Value.int .u8))) (hi : i < n) (hn : n ≤ 9223372036854775807) (hx : w.cell? ⟨b, off + i, none⟩ = some (.int .u8 x)) (x0 : 0 ≤ x) (x1 : x ≤ 255) (hb : b < w.heap.size) (t0 : (x % 8 == 0) = false) (t4 : (x % 8 == 4) = false) (t6 : (x % 8 == 6) = false) (i1 : Does b off n c cs mi (i + 1) r1) (i2 : Does b off n c cs mi r1.2 r2) :
    Calls Try.prog 8 #[.slice (some ⟨b, off, none⟩) n c, .int .i64 i, .bool mi] w (Res (binV (opc (x % 8)) r1.1 r2.1, r2.2) w) := by
  have I1 := Lib.hid i1
  have I2 := Lib.hid i2
  clear i1 i2
  have E1 := Lib.hid (show ((i + 1 : Nat) : Int) = (i : Int) + 1 by omega)
  go_enter Try.func8, Try.ntmps8
  go_wp2_with fail
  rw [← E1.out]
  refine (I1.out _ (sl_later hs ((((Below.refl _ _).alloc (Nat.le_refl _) _).alloc (by simp) _).alloc (by simp <;> omega) _))).mono ?_
  rintro e w1 ⟨T1, v1, rfl, g1, hb1⟩
  have G1 := Lib.hid g1
  clear g1
  have z2 : w.heap.size + 1 + 1 < w1.heap.size := by have := hb1.size; simp at this; omega
  have z1 : w.heap.size + 1 < w1.heap.size := by omega
  have z0 : w.heap.size < w1.heap.size := by omega
  obtain ⟨c0, c1, f0, f1⟩ : At w1 w.heap.size .nilIface := At.below (by constructor <;> simp [go_sem]) hb1 (by simp <;> omega)
  obtain ⟨d0, d1, h0, h1⟩ : At w1 (w.heap.size + 1) .nilIface := At.below (by constructor <;> simp [go_sem]) hb1 (by simp)
  obtain ⟨e0, e1, k0, k1⟩ : At w1 (w.heap.size + 1 + 1) .nilIface := At.below (by constructor <;> simp [go_sem]) hb1 (by simp)
  have BL := Lib.hid (((((Below.refl _ _).alloc (Nat.le_refl _) _).alloc (by simp) _).alloc (by simp <;> omega) _).trans (hb1.mono (by simp <;> omega)) : Below w.heap.size w w1)
  clear hb1
  go_wp2_with fail
  have bl1 := Lib.hid ((BL.out.setCell (p := ⟨w.heap.size + 1, 0, none⟩) (by simp) (.iface T1 v1)).setCell (p := ⟨w.heap.size + 1, 1, none⟩) (by simp) (.int .i32 0))
  refine (I2.out _ (sl_later hs bl1.out)).mono ?_
  rintro e w2 ⟨T2, v2, rfl, g2, hb2⟩
  have G2 := Lib.hid g2
  clear g2
  have y2 : w.heap.size + 1 + 1 < w2.heap.size := by have := hb2.size; simp at this; omega
  have y1 : w.heap.size + 1 < w2.heap.size := by omega
  have y0 : w.heap.size < w2.heap.size := by omega
  obtain ⟨c0', c1', f0', f1'⟩ : At w2 w.heap.size .nilIface := At.below (by constructor <;> simp [go_sem, c0, c1, f0, f1]) hb2 (by simp <;> omega)
  obtain ⟨d0', d1', h0', h1'⟩ : At w2 (w.heap.size + 1) (.iface T1 v1) := At.below (by constructor <;> simp [go_sem, d0, d1, h0, h1]) hb2 (by simp <;> omega)
  obtain ⟨e0', e1', k0', k1'⟩ : At w2 (w.heap.size + 1 + 1) .nilIface := At.below (by constructor <;> simp [go_sem, e0, e1, k0, k1]) hb2 (by simp <;> omega)
  clear c0 c1 f0 f1 d0 d1 h0 h1 e0 e1 k0 k1
  have BL2 := Lib.hid (bl1.out.trans (hb2.mono (by simp <;> omega)) : Below w.heap.size w w2)
  have EX1 := Lib.hid ((((Ext.refl (fun b => b < w.heap.size + 3) w1).trans (ext_set _ (w.heap.size + 1) 0 (.iface T1 v1) (by show _ < _; omega))).trans (ext_set _ (w.heap.size + 1) 1 (.int .i32 0) (by show _ < _; omega))).trans (ext_of_below hb2))
  clear hb2 BL bl1
  have sz : w.heap.size + 2 < w1.heap.size := z2
  cases mi
  · go_wp2_with fail
    obtain ⟨w3, hw3⟩ : ∃ w3, w3 = (w2.setCell ⟨w.heap.size + 1 + 1, 0, none⟩ (.iface T2 v2)).setCell ⟨w.heap.size + 1 + 1, 1, none⟩ (.int .i32 0) := ⟨_, rfl⟩
    rw [← hw3]
    obtain ⟨c0, c1, f0, f1⟩ : At w3 w.heap.size .nilIface := by rw [hw3]; constructor <;> simp [go_sem, *]
    obtain ⟨d0, d1, -, -⟩ : At w3 (w.heap.size + 1) (.iface T1 v1) := by rw [hw3]; constructor <;> simp [go_sem, *]
    obtain ⟨e0, e1, -, -⟩ : At w3 (w.heap.size + 1 + 1) (.iface T2 v2) := by rw [hw3]; constructor <;> simp [go_sem, *]
    have z3 : w.heap.size < w3.heap.size := by rw [hw3]; simp; omega
    have BL3 := Lib.hid (show Below w.heap.size w w3 by rw [hw3]; exact ((BL2.out.setCell (by simp <;> omega) _).setCell (by simp <;> omega) _))
    have EXa := Lib.hid (show Ext (fun b => b < w.heap.size + 3) w1 w3 by rw [hw3]; exact (ext_set' (ext_set' EX1.out (by show _ < _; omega)) (by show _ < _; omega)))
    have EXb := Lib.hid (show Ext (fun b => b < w1.heap.size) w2 w3 by rw [hw3]; exact (ext_set' (ext_set' (Ext.refl _ _) (by show _ < _; omega)) (by show _ < _; omega)))
    clear hw3 c0' c1' f0' f1' d0' d1' h0' h1' e0' e1' k0' k1' BL2 EX1
    have n1 : (w.heap.size = w.heap.size + 1 + 1) = False := by simp; omega
    have n2 : (w.heap.size + 1 + 1 = w.heap.size) = False := by simp; omega
    have z4 : w.heap.size + 1 + 1 < w3.heap.size := by have := EXb.out.1; omega
    go_region_held3 (fun w' => w'.cell? ⟨w.heap.size + 1, 0, none⟩ = some (.iface T1 v1) ∧ w'.cell? ⟨w.heap.size + 1, 1, none⟩ = some (.int .i32 0) ∧ w'.cell? ⟨w.heap.size + 1 + 1, 0, none⟩ = some (.iface T2 v2) ∧ w'.cell? ⟨w.heap.size + 1 + 1, 1, none⟩ = some (.int .i32 0)) (go_keep) (first | (go_at_call 19; refine (op_any _ _ (by omega) (by omega)).mono ?_; rintro e w' ⟨rfl, rfl⟩))
    go_wp2_with fail
    have V1 : Val (fun b => b < w.heap.size) ((((w3.setCell ⟨w.heap.size, 0, none⟩ (.iface 103 (.pointer (some ⟨w3.heap.size, 0, none⟩)))).setCell ⟨w.heap.size, 1, none⟩ (.int .i32 0)).alloc (.cells #[(.iface T1 v1), .int .i32 0, (.iface T2 v2), .int .i32 0, .int .u8 (opc (x % 8)), .bool false] 106)).drew) (.iface T1 v1) r1.1 :=
      (G1.out.later (ext_drew' (ext_alloc' (ext_set' (ext_set' (EXa.out.mono (fun b _ h => by simp at h ⊢; omega)) (by simp <;> omega)) (by simp <;> omega))))).mono (fun b _ h => by simp at h ⊢; omega)
    have V2 : Val (fun b => b < w.heap.size) ((((w3.setCell ⟨w.heap.size, 0, none⟩ (.iface 103 (.pointer (some ⟨w3.heap.size, 0, none⟩)))).setCell ⟨w.heap.size, 1, none⟩ (.int .i32 0)).alloc (.cells #[(.iface T1 v1), .int .i32 0, (.iface T2 v2), .int .i32 0, .int .u8 (opc (x % 8)), .bool false] 106)).drew) (.iface T2 v2) r2.1 :=
      (G2.out.later (ext_drew' (ext_alloc' (ext_set' (ext_set' (EXb.out.mono (fun b _ h => by simp at h ⊢; omega)) (by simp <;> omega)) (by simp <;> omega))))).mono (fun b _ h => by simp at h ⊢; omega)
    refine bodyPost_ret (v := .tuple #[.agg #[.iface 103 (.pointer (some ⟨w3.heap.size, 0, none⟩)), .int .i32 0], .int .i64 (r2.2 : Int)]) (by simp [results, Try.results8, go_sem, c0, c1, z3]) rfl ⟨_, _, rfl, ?_, ?_⟩
    · exact val_bin _ _ w3.heap.size _ _ _ _ _ (by simp) (by simp <;> omega) (by simp [go_sem]) (by simp [go_sem]) (by simp [go_sem]) V1 V2
    · exact (((BL3.out.setCell (by simp) _).setCell (by simp) _).alloc (by simp <;> omega) _).drew
  · go_wp2_with fail
    obtain ⟨w4, hw4⟩ : ∃ w4, w4 = (w2.setCell ⟨w.heap.size + 1 + 1, 0, none⟩ (.iface T2 v2)).setCell ⟨w.heap.size + 1 + 1, 1, none⟩ (.int .i32 0) := ⟨_, rfl⟩
    rw [← hw4]
    obtain ⟨a0, a1, a2, a3⟩ : At w4 w.heap.size .nilIface := by rw [hw4]; constructor <;> simp [go_sem, *]
    obtain ⟨p0, p1, p2, p3⟩ : At w4 (w.heap.size + 1) (.iface T1 v1) := by rw [hw4]; constructor <;> simp [go_sem, *]
    obtain ⟨q0, q1, q2, q3⟩ : At w4 (w.heap.size + 1 + 1) (.iface T2 v2) := by rw [hw4]; constructor <;> simp [go_sem, *]
    have BL4 := Lib.hid (show Below w.heap.size w w4 by rw [hw4]; exact ((BL2.out.setCell (by simp <;> omega) _).setCell (by simp <;> omega) _))
    have EX4 := Lib.hid (show Ext (fun b => b < w.heap.size + 3) w1 w4 by rw [hw4]; exact (ext_set' (ext_set' EX1.out (by show _ < _; omega)) (by show _ < _; omega)))
    have EY4 := Lib.hid (show Ext (fun b => b < w1.heap.size) w2 w4 by rw [hw4]; exact (ext_set' (ext_set' (Ext.refl _ _) (by show _ < _; omega)) (by show _ < _; omega)))
    have z5 : w2.heap.size ≤ w4.heap.size := EY4.out.1
    clear hw4
    obtain ⟨w3, hw3⟩ : ∃ w3, w3 = (((w4.setCell ⟨w.heap.size + 1, 0, none⟩ (.iface T2 v2)).setCell ⟨w.heap.size + 1, 1, none⟩ (.int .i32 0)).setCell ⟨w.heap.size + 1 + 1, 0, none⟩ (.iface T1 v1)).setCell ⟨w.heap.size + 1 + 1, 1, none⟩ (.int .i32 0) := ⟨_, rfl⟩
    rw [← hw3]
    obtain ⟨c0, c1, f0, f1⟩ : At w3 w.heap.size .nilIface := by rw [hw3]; constructor <;> simp [go_sem, *]
    obtain ⟨d0, d1, -, -⟩ : At w3 (w.heap.size + 1) (.iface T2 v2) := by rw [hw3]; constructor <;> simp [go_sem, *]
    obtain ⟨e0, e1, -, -⟩ : At w3 (w.heap.size + 1 + 1) (.iface T1 v1) := by rw [hw3]; constructor <;> simp [go_sem, *]
    have z3 : w.heap.size < w3.heap.size := by rw [hw3]; simp; omega
    have BL3 := Lib.hid (show Below w.heap.size w w3 by rw [hw3]; exact ((((BL4.out.setCell (by simp <;> omega) _).setCell (by simp <;> omega) _).setCell (by simp <;> omega) _).setCell (by simp <;> omega) _))
    have EXa := Lib.hid (show Ext (fun b => b < w.heap.size + 3) w1 w3 by rw [hw3]; exact (ext_set' (ext_set' (ext_set' (ext_set' EX4.out (by show _ < _; omega)) (by show _ < _; omega)) (by show _ < _; omega)) (by show _ < _; omega)))
    have EXb := Lib.hid (show Ext (fun b => b < w1.heap.size) w2 w3 by rw [hw3]; exact (ext_set' (ext_set' (ext_set' (ext_set' EY4.out (by show _ < _; omega)) (by show _ < _; omega)) (by show _ < _; omega)) (by show _ < _; omega)))
    clear hw3 a0 a1 a2 a3 p0 p1 p2 p3 q0 q1 q2 q3 BL4 EX4 EY4 c0' c1' f0' f1' d0' d1' h0' h1' e0' e1' k0' k1' BL2 EX1
    have n1 : (w.heap.size = w.heap.size + 1 + 1) = False := by simp; omega
    have n2 : (w.heap.size + 1 + 1 = w.heap.size) = False := by simp; omega
    have z4 : w.heap.size + 1 + 1 < w3.heap.size := by have := EXb.out.1; omega
    go_region_held3 (fun w' => w'.cell? ⟨w.heap.size + 1, 0, none⟩ = some (.iface T2 v2) ∧ w'.cell? ⟨w.heap.size + 1, 1, none⟩ = some (.int .i32 0) ∧ w'.cell? ⟨w.heap.size + 1 + 1, 0, none⟩ = some (.iface T1 v1) ∧ w'.cell? ⟨w.heap.size + 1 + 1, 1, none⟩ = some (.int .i32 0)) (go_keep) (first | (go_at_call 19; refine (op_any _ _ (by omega) (by omega)).mono ?_; rintro e w' ⟨rfl, rfl⟩))
    go_wp2_with fail
    have V1 : Val (fun b => b < w.heap.size) ((((w3.setCell ⟨w.heap.size, 0, none⟩ (.iface 103 (.pointer (some ⟨w3.heap.size, 0, none⟩)))).setCell ⟨w.heap.size, 1, none⟩ (.int .i32 0)).alloc (.cells #[(.iface T2 v2), .int .i32 0, (.iface T1 v1), .int .i32 0, .int .u8 (opc (x % 8)), .bool false] 106)).drew) (.iface T1 v1) r1.1 :=
      (G1.out.later (ext_drew' (ext_alloc' (ext_set' (ext_set' (EXa.out.mono (fun b _ h => by simp at h ⊢; omega)) (by simp <;> omega)) (by simp <;> omega))))).mono (fun b _ h => by simp at h ⊢; omega)
    have V2 : Val (fun b => b < w.heap.size) ((((w3.setCell ⟨w.heap.size, 0, none⟩ (.iface 103 (.pointer (some ⟨w3.heap.size, 0, none⟩)))).setCell ⟨w.heap.size, 1, none⟩ (.int .i32 0)).alloc (.cells #[(.iface T2 v2), .int .i32 0, (.iface T1 v1), .int .i32 0, .int .u8 (opc (x % 8)), .bool false] 106)).drew) (.iface T2 v2) r2.1 :=
      (G2.out.later (ext_drew' (ext_alloc' (ext_set' (ext_set' (EXb.out.mono (fun b _ h => by simp at h ⊢; omega)) (by simp <;> omega)) (by simp <;> omega))))).mono (fun b _ h => by simp at h ⊢; omega)
    refine bodyPost_ret (v := .tuple #[.agg #[.iface 103 (.pointer (some ⟨w3.heap.size, 0, none⟩)), .int .i32 0], .int .i64 (r2.2 : Int)]) (by simp [results, Try.results8, go_sem, c0, c1, z3]) rfl ⟨_, _, rfl, ?_, ?_⟩
    · show Val _ _ _ (binV (opc (x % 8)) r1.1 r2.1)
      rw [binV_comm]
      exact val_bin _ _ w3.heap.size _ _ _ _ _ (by simp) (by simp <;> omega) (by simp [go_sem]) (by simp [go_sem]) (by simp [go_sem]) V2 V1
    · exact (((BL3.out.setCell (by simp) _).setCell (by simp) _).alloc (by simp <;> omega) _).drew

end Go.Proofs.Ythcjcafillcikaa
