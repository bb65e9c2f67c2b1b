/-
  What the law reads off a template; no statement of its own.
-/
import Derived.Test.YtlmjnlijoodbiaaDoorRows
import Derived.WalkKit
import Derived.ProofKit
import Derived.OpenShut
import Derived.Test.YtlmjnlijoodbiaaDoorSlW
import Derived.Test.YtlmjnlijoodbiaaDoorIpC
import Derived.Test.YtlmjnlijoodbiaaDoorIpA
import Derived.Test.YtlmjnlijoodbiaaDoorIpB
import Derived.Test.YtlmjnlijoodbiaaDoorIpR
import Derived.Test.YtlmjnlijoodbiaaDoorIpT
import Derived.Test.YtlmjnlijoodbiaaDoorIpS
import Derived.WalkLawsBesides
import Derived.WalkSpells
import Derived.Below
import Derived.Lib.Hide
import Derived.Outline
import Derived.OwnWalk
import Derived.LoopTactic
import Derived.RegionTactic
import Derived.Deep.QuietTactic
import Derived.BigQuiet
namespace Go.Proofs.YtlmjnlijoodbiaaDoor
open Go.ChangeShapes Go.WideShapes Go.ChangeAt Go.RowKit

set_option linter.unusedVariables false

theorem info_sl : (Tryd.prog.info? 22).map (fun i => (i.zero, i.size, i.bytes)) = some (some (.slice none 0 0), 1, 24) := by kernel_rfl
theorem info_i64 : (Tryd.prog.info? 2).map (fun i => (i.zero, i.size, i.bytes)) = some (some (.int .i64 0), 1, 8) := by kernel_rfl
/-- Block g holds n cells, of which the first k are those of f. -/
def Upto (w : World) (g n k : Nat) (t : TypeId) (f : Nat → Value) : Prop := ∃ cs : Array Value, Bk w g t cs ∧ cs.size = n ∧ ∀ i, i < k → cs[i]? = some (f i)
theorem Upto.cell {w : World} {g n k : Nat} {t : TypeId} {f : Nat → Value} (h : Upto w g n k t f) {i : Nat} (hi : i < k) : w.cell? ⟨g, i, none⟩ = some (f i) := by
  obtain ⟨cs, h1, _, h3⟩ := h; rw [h1.cell]; exact h3 i hi
theorem Upto.any {w : World} {g n k : Nat} {t : TypeId} {f : Nat → Value} (h : Upto w g n k t f) {i : Nat} (hi : i < n) : ∃ v, w.cell? ⟨g, i, none⟩ = some v := by
  obtain ⟨cs, h1, h2, _⟩ := h; exact ⟨cs[i]'(by omega), by rw [h1.cell]; exact Array.getElem?_eq_getElem _⟩
theorem Upto.frozen {w : World} {g n k : Nat} {t : TypeId} {f : Nat → Value} (h : Upto w g n k t f) (i : Nat) : w.frozen? ⟨g, i, none⟩ = false := by
  obtain ⟨cs, h1, _⟩ := h; exact h1.frozen i
theorem Upto.lt {w : World} {g n k : Nat} {t : TypeId} {f : Nat → Value} (h : Upto w g n k t f) : g < w.heap.size := by
  obtain ⟨cs, h1, _⟩ := h; exact h1.lt
theorem Upto.set {w : World} {g n k : Nat} {t : TypeId} {f : Nat → Value} (h : Upto w g n k t f) (hk : k < n) {v : Value} (hv : v = f k) : Upto (w.setCell ⟨g, k, none⟩ v) g n (k + 1) t f := by
  obtain ⟨cs, h1, h2, h3⟩ := h
  refine ⟨_, h1.setSelf, by rw [Array.size_setIfInBounds]; exact h2, fun i hi => ?_⟩
  rw [Array.getElem?_setIfInBounds]
  by_cases e : k = i
  · subst e; rw [if_pos rfl, if_pos (by omega), hv]
  · rw [if_neg e]; exact h3 i (by omega)
theorem Upto.other {w : World} {g b o n k : Nat} {t : TypeId} {f : Nat → Value} (h : Upto w g n k t f) (hne : g ≠ b) (v : Value) : Upto (w.setCell ⟨b, o, none⟩ v) g n k t f := by
  obtain ⟨cs, h1, h2, h3⟩ := h; exact ⟨cs, h1.set hne, h2, h3⟩
theorem Upto.alloc {w : World} {g n k : Nat} {t : TypeId} {f : Nat → Value} (h : Upto w g n k t f) (o : Obj) : Upto (w.alloc o) g n k t f := by
  obtain ⟨cs, h1, h2, h3⟩ := h; exact ⟨cs, h1.alloc o, h2, h3⟩
theorem Upto.made (w : World) (n g : Nat) (t : TypeId) (z : Value) (hz : z.cells = #[z]) (f : Nat → Value) (hg : g = w.heap.size) : Upto (w.alloc (.cells (madeCells z.cells n) t)) g n 0 t f := by
  subst hg
  exact ⟨_, Bk.new _ _ _, by simp [madeCells], fun i hi => by omega⟩
theorem results_tmp4 {fn : Func} {t u v x : Tmp} (h : fn.results = #[.tmp t, .tmp u, .tmp v, .tmp x]) (tmps : Array Value) (P : Program) (w : World) :
    (results fn tmps).run P w = .ok (.tuple #[tmps.getD t undef, tmps.getD u undef, tmps.getD v undef, tmps.getD x undef]) w := by
  simp [results, h]
theorem below_drewN {B : Nat} {w w' : World} (h : Below B w w') (q : Nat) : Below B w (w'.drewN q) := ⟨h.1, h.2, h.3, h.4, h.5⟩
/-- The number that is read off a node. -/
def RefOf (w : World) (d : Value) (r : Int) : Prop := (∃ g x : Nat, d = .iface 55 (ptr g) ∧ r = (x : Int) ∧ x < 4294967296 ∧ Bk w g 60 #[.int .u32 0, .int .u32 (x : Int), .bool false, .bool false, .bool false]) ∨ (∃ g, d = .iface 50 (ptr g) ∧ r = -1)
def Shape (w : World) (n : Nat) (tagged : Bool) (vh : Value) (tv : Nat → Value) (rf : Nat → Int) (e : Ending) (w' : World) : Prop := ∃ A B, e = .returned (.tuple #[.bool tagged, vh, .slice (some ⟨A, 0, none⟩) n n, .slice (some ⟨B, 0, none⟩) n n]) ∧ Upto w' A n n 22 tv ∧ Upto w' B n n 2 (fun i => .int .i64 (rf i)) ∧ w.heap.size ≤ A ∧ w.heap.size ≤ B ∧ Below w.heap.size w w'
set_option maxRecDepth 100000 in
set_option maxHeartbeats 4000000 in
theorem shape_of (w : World) (tb K n c : Nat) (vh : Value) (hl : Int) (tv : Nat → Value) (rf : Nat → Int) (f : Nat → Nat → Value) (hn : n ≤ 4096) (hc : n ≤ c)
    (hb : Bk w tb 48 #[.nilIface, .int .i32 0, .string ⟨#[]⟩, vh, .slice (some ⟨K, 0, none⟩) n c, .int .i32 hl, .int .i32 0, .bool false, .bool false])
    (hr : Rw w K 54 c 5 f) (hf : ∀ i, i < n → RefOf w (f i 0) (rf i) ∧ f i 3 = tv i ∧ ∃ a l k, tv i = .slice a l k) (hvh : ∃ a l k, vh = .slice a l k) :
    Calls Tryd.prog 11 #[ptr tb] w (Shape w n false vh tv rf) := by
  obtain ⟨i0, gi, gz0, gz1, gz2⟩ := info_three info_sl
  have hmk := run_make (P := Tryd.prog) w 24 22 i0 (.slice none 0 0) Tryd.underlying24 gi gz0 .i64 .i64 n n (by omega) (by omega) (by rw [gz2]; omega) (by omega)
  obtain ⟨j0, hi, hz0, hz1, hz2⟩ := info_three info_i64
  have hmk2 := fun w : World => run_make (P := Tryd.prog) w 28 2 j0 (.int .i64 0) Tryd.underlying28 hi hz0 .i64 .i64 n n (by omega) (by omega) (by rw [hz2]; omega) (by omega)
  simp only [gz1, Int.toNat_natCast, Nat.mul_one] at hmk
  simp only [hz1, Int.toNat_natCast, Nat.mul_one] at hmk2
  have HB := Lib.hid hb
  have HR := Lib.hid hr
  have HF := Lib.hid hf
  obtain ⟨ah, lh, kh, rfl⟩ := hvh
  have t4 : w.cell? ⟨tb, 4, none⟩ = some (.slice (some ⟨K, 0, none⟩) n c) := hb.cell 4
  have ztb := hb.lt
  clear hb hr hf gi gz0 gz1 gz2 hi hz0 hz1 hz2
  go_enter Tryd.func11, Tryd.ntmps11
  go_wp2_with fail
  clear hmk hmk2
  go_loopw [8] (fun v wr => ∃ k : Nat, k ≤ n ∧ v = .int .i64 k ∧ Hid (Upto wr w.heap.size n k 22 tv ∧ Upto wr (w.heap.size + 1) n k 2 (fun i => .int .i64 (rf i)) ∧ Below w.heap.size w wr)) (fun v _ => n - (intOf v).toNat)
  case atStart =>
    refine ⟨0, by omega, rfl, ?_, ?_, ?_⟩
    · exact (Upto.made w n w.heap.size 22 (.slice none 0 0) rfl tv rfl).alloc _
    · exact Upto.made _ n _ 2 (.int .i64 0) rfl _ (by simp)
    · exact ((Below.refl _ _).alloc (Nat.le_refl _) _).alloc (by simp) _
  case round =>
    obtain ⟨k, hk, rfl, H⟩ := hrel
    have B1 := HB.out.later H.out.2.2
    have t4 : wr.cell? ⟨tb, 4, none⟩ = some (.slice (some ⟨K, 0, none⟩) n c) := B1.cell 4
    have t3 : wr.cell? ⟨tb, 3, none⟩ = some (.slice ah lh kh) := B1.cell 3
    have t0 : wr.cell? ⟨tb, 0, none⟩ = some .nilIface := B1.cell 0
    have ztb := B1.lt
    clear B1
    by_cases hlt : k < n
    · have l0 : (0 : Int) ≤ (k : Int) := by omega
      have l1 : (k : Int) < (n : Int) := by omega
      have hrw := HR.out.move fun cs hb => hb.later H.out.2.2
      have d0 := hrw.cell (i := k) (j := 0) (by omega) (by omega)
      have d3 := hrw.cell (i := k) (j := 3) (by omega) (by omega)
      rw [Nat.add_zero] at d0
      have zK := hrw.lt
      obtain ⟨hro, hf3, av, lv, kv, htv⟩ := HF.out k hlt
      rw [hf3, htv] at d3
      have HTV := Lib.hid htv
      obtain ⟨ya, hya⟩ := H.out.1.any hlt
      obtain ⟨yb, hyb⟩ := H.out.2.1.any hlt
      have fa := H.out.1.frozen k
      have fb := H.out.2.1.frozen k
      have za := H.out.1.lt
      have zb := H.out.2.1.lt
      have zK0 := HR.out.lt
      have zt0 := HB.out.lt
      have n1 : (K = w.heap.size) = False := eq_false (by omega)
      have n2 : (w.heap.size = K) = False := eq_false (by omega)
      have n3 : (tb = w.heap.size) = False := eq_false (by omega)
      have n4 : (w.heap.size = tb) = False := eq_false (by omega)
      clear hrw hf3 htv
      rcases hro with ⟨g, x, hd, hx, hx32, hbx⟩ | ⟨g, hd, hx⟩
      · rw [hd] at d0
        have b1 := hbx.later H.out.2.2
        have x1 : wr.cell? ⟨g, 1, none⟩ = some (.int .u32 (x : Int)) := b1.cell 1
        have zg := b1.lt
        have zg0 := hbx.lt
        have n5 : (g = w.heap.size) = False := eq_false (by omega)
        have n6 : (w.heap.size = g) = False := eq_false (by omega)
        have hwx : IntKind.i64.wrap (x : Int) = (x : Int) := IntWalk.i64_in _ (by omega)
        have HX := Lib.hid hx
        clear hd hbx b1 hx hx32
        go_wp2_with fail
        go_roundw
        case rel => exact ⟨k + 1, by omega, by go_num, (H.out.1.set hlt HTV.out.symm).other (by omega) _, (H.out.2.1.other (by omega) _).set hlt (by rw [HX.out]), (H.out.2.2.setCell (Nat.le_refl _) _).setCell (by show w.heap.size ≤ w.heap.size + 1; omega) _⟩
        case measure => simp [intOf]; omega
      · rw [hd] at d0
        have HX := Lib.hid hx
        clear hd hx
        go_wp2_with fail
        go_roundw
        case rel => exact ⟨k + 1, by omega, by go_num, (H.out.1.set hlt HTV.out.symm).other (by omega) _, (H.out.2.1.other (by omega) _).set hlt (by rw [HX.out]), (H.out.2.2.setCell (Nat.le_refl _) _).setCell (by show w.heap.size ≤ w.heap.size + 1; omega) _⟩
        case measure => simp [intOf]; omega
    · obtain rfl : k = n := by omega
      go_wp2_with fail
      go_quiet (fail)
      go_wp2_with fail
      (try simp only [Exit.inBlock, Exit.then])
      refine bodyPost_ret (results_tmp4 rfl _ _ _) rfl ?_
      exact ⟨w.heap.size, w.heap.size + 1, rfl, H.out.1, H.out.2.1, Nat.le_refl _, by omega, below_drewN H.out.2.2 _⟩

end Go.Proofs.YtlmjnlijoodbiaaDoor
