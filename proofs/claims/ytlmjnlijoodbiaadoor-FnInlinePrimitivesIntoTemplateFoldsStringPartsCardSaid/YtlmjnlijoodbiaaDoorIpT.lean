/-
  The template that the law makes; no statement of its own.
-/
import Derived.Test.YtlmjnlijoodbiaaDoorRows
import Derived.WalkKit
import Derived.ProofKit
import Derived.OpenShut
import Derived.Test.YtlmjnlijoodbiaaDoorSlW
import Derived.Test.YtlmjnlijoodbiaaDoorIpC
import Derived.Test.YtlmjnlijoodbiaaDoorIpE
import Derived.Test.YtlmjnlijoodbiaaDoorIpA
import Derived.Test.YtlmjnlijoodbiaaDoorIpB
import Derived.Test.YtlmjnlijoodbiaaDoorIpR
import Derived.WalkLawsBesides
import Derived.WalkSpells
import Derived.Below
import Derived.Lib.Hide
import Derived.Outline
import Derived.OwnWalk
import Derived.LoopTactic
import Derived.RegionTactic
import Derived.Deep.QuietTactic
import Derived.BigQuiet
namespace Go.Proofs.YtlmjnlijoodbiaaDoor
open Go.ChangeShapes Go.WideShapes Go.ChangeAt Go.RowKit

set_option linter.unusedVariables false

abbrev ptr (g : Nat) : Value := .pointer (some ⟨g, 0, none⟩)
def zTp : Array Value := #[.nilIface, .int .i32 0, .string ⟨#[]⟩, .slice none 0 0, .int .i32 0]
theorem info_tp : (Tryd.prog.info? 54).map (fun i => (i.zero, i.size, i.bytes)) = some (some (.agg zTp), 5, 72) := by kernel_rfl
/-- The node of part i: a string's box with the slice v, or an identifier's with the number i. -/
def Node (w : World) (B : Nat) (b : Bool) (i : Nat) (v d : Value) : Prop := ∃ g, B ≤ g ∧ g < w.heap.size ∧ ((b = true ∧ d = .iface 50 (ptr g) ∧ Bk w g 52 #[v, .int .i32 0, .bool false, .bool false, .bool false]) ∨
  (b = false ∧ d = .iface 55 (ptr g) ∧ Bk w g 60 #[.int .u32 0, .int .u32 (i : Int), .bool false, .bool false, .bool false]))
/-- The first k parts are filled. -/
def PartsUp (w : World) (B K n k : Nat) (isS : Nat → Bool) (vv tv : Nat → Value) : Prop := ∃ f, Rw w K 54 n 5 f ∧ (∀ i, i < n → f i 1 = .int .i32 0 ∧ f i 2 = .string ⟨#[]⟩ ∧ f i 4 = .int .i32 0) ∧ (∀ i, i < k → Node w B (isS i) i (vv i) (f i 0) ∧ f i 3 = tv i)
theorem Node.keep {w w' : World} {B i : Nat} {b : Bool} {v d : Value} (h : Node w B b i v d) (hs : w.heap.size ≤ w'.heap.size) (hk : ∀ g t cs, t = 52 ∨ t = 60 → Bk w g t cs → Bk w' g t cs) : Node w' B b i v d := by
  obtain ⟨g, h1, h2, h3⟩ := h
  refine ⟨g, h1, by omega, ?_⟩
  rcases h3 with ⟨a, b, c⟩ | ⟨a, b, c⟩
  · exact .inl ⟨a, b, hk _ _ _ (.inl rfl) c⟩
  · exact .inr ⟨a, b, hk _ _ _ (.inr rfl) c⟩
/-- What the maker answers. -/
def Tmpl (w : World) (n : Nat) (vh : Value) (isS : Nat → Bool) (vv tv : Nat → Value) (tagged : Bool) (loc : Int) (e : Ending) (w' : World) : Prop := ∃ tb K tag, e = .returned (ptr tb) ∧ Bk w' tb 48 #[tag, .int .i32 0, .string ⟨#[]⟩, vh, .slice (some ⟨K, 0, none⟩) n n, .int .i32 loc, .int .i32 0, .bool false, .bool false] ∧
  ((tagged = false ∧ tag = .nilIface) ∨ (tagged = true ∧ ∃ g, tag = .iface 55 (ptr g))) ∧ w.heap.size ≤ tb ∧ w.heap.size ≤ K ∧ K < w'.heap.size ∧ PartsUp w' w.heap.size K n n isS vv tv ∧ Below w.heap.size w w'
theorem Bk.new' (w : World) (n : Nat) (t : TypeId) (cs : Array Value) (hn : n = w.heap.size) : Bk (w.alloc (.cells cs t)) n t cs := hn ▸ Bk.new w t cs
theorem PartsUp.alloc {w : World} {B K n k : Nat} {isS : Nat → Bool} {vv tv : Nat → Value} (h : PartsUp w B K n k isS vv tv) (o : Obj) : PartsUp (w.alloc o) B K n k isS vv tv := by
  obtain ⟨f, h1, h2, h3⟩ := h
  exact ⟨f, h1.move fun cs hb => hb.alloc _, h2, fun i hi => ⟨(h3 i hi).1.keep (by simp) fun g t cs _ hb => hb.alloc _, (h3 i hi).2⟩⟩
theorem PartsUp.lt {w : World} {B K n k : Nat} {isS : Nat → Bool} {vv tv : Nat → Value} (h : PartsUp w B K n k isS vv tv) : K < w.heap.size := by
  obtain ⟨f, h1, _⟩ := h; exact h1.lt
theorem parts_step {wr : World} {B K n k : Nat} {isS : Nat → Bool} {vv tv : Nat → Value} (h : PartsUp wr B K n k isS vv tv) (hk : k < n) (hB : B ≤ wr.heap.size) (d t : Value) (bt : TypeId) (cs : Array Value)
    (hd : (isS k = true ∧ d = .iface 50 (ptr wr.heap.size) ∧ bt = 52 ∧ cs = #[vv k, .int .i32 0, .bool false, .bool false, .bool false]) ∨ (isS k = false ∧ d = .iface 55 (ptr wr.heap.size) ∧ bt = 60 ∧ cs = #[.int .u32 0, .int .u32 (k : Int), .bool false, .bool false, .bool false])) (ht : t = tv k) :
    PartsUp ((((wr.setCell ⟨K, k * 5, none⟩ d).setCell ⟨K, k * 5 + 1, none⟩ (.int .i32 0)).setCell ⟨K, k * 5 + 3, none⟩ t).alloc (.cells cs bt)) B K n (k + 1) isS vv tv := by
  obtain ⟨f, hrw, hf1, hf2⟩ := h
  have g0 := hrw.set (i := k) (j := 0) hk (by omega) d
  rw [Nat.add_zero] at g0
  have g1 := g0.set (i := k) (j := 1) hk (by omega) (.int .i32 0)
  have g3 := g1.set (i := k) (j := 3) hk (by omega) t
  obtain ⟨arr, hbk, -, -⟩ := hrw
  have sz : (((wr.setCell ⟨K, k * 5, none⟩ d).setCell ⟨K, k * 5 + 1, none⟩ (.int .i32 0)).setCell ⟨K, k * 5 + 3, none⟩ t).heap.size = wr.heap.size := by simp
  have hnew : Bk ((((wr.setCell ⟨K, k * 5, none⟩ d).setCell ⟨K, k * 5 + 1, none⟩ (.int .i32 0)).setCell ⟨K, k * 5 + 3, none⟩ t).alloc (.cells cs bt)) wr.heap.size bt cs := by
    have := Bk.new (((wr.setCell ⟨K, k * 5, none⟩ d).setCell ⟨K, k * 5 + 1, none⟩ (.int .i32 0)).setCell ⟨K, k * 5 + 3, none⟩ t) bt cs
    rw [sz] at this; exact this
  refine ⟨_, g3.move fun cs hb => hb.alloc _, fun i hi => ?_, fun i hi => ?_⟩
  · obtain ⟨a1, a2, a4⟩ := hf1 i hi
    by_cases e : i = k
    · subst e
      refine ⟨?_, ?_, ?_⟩ <;> simp [upd, a2, a4]
    · refine ⟨?_, ?_, ?_⟩ <;> simp [upd, e, a1, a2, a4]
  · by_cases e : i = k
    · subst e
      refine ⟨⟨wr.heap.size, hB, by simp, ?_⟩, by simp [upd, ht]⟩
      rcases hd with ⟨h1, rfl, rfl, rfl⟩ | ⟨h1, rfl, rfl, rfl⟩
      · exact .inl ⟨h1, by simp [upd], hnew⟩
      · exact .inr ⟨h1, by simp [upd], hnew⟩
    · obtain ⟨b1, b2⟩ := hf2 i (by omega)
      refine ⟨?_, by simp [upd, e, b2]⟩
      have e0 : (upd (upd (upd f k 0 d) k 1 (.int .i32 0)) k 3 t) i 0 = f i 0 := by simp [upd, e]
      rw [e0]
      refine b1.keep (by simp) fun g t' cs' ht' hb' => ?_
      have hne : g ≠ K := hb'.ne hbk (by rcases ht' with rfl | rfl <;> decide)
      exact (((hb'.set hne).set hne).set hne).alloc _
theorem u32_small (k : Nat) (h : k < 4294967296) : IntKind.u32.wrap (k : Int) = (k : Int) := by
  unfold IntKind.wrap; simp [IntKind.bits, IntKind.signed]; omega
set_option maxRecDepth 100000 in
set_option maxHeartbeats 4000000 in
theorem new_template (w : World) (n Ib Vb Tb : Nat) (vh : Value) (hd : List Int) (isS : Nat → Bool) (vv tv : Nat → Value) (V T : Nat → List Int) (tagged : Bool) (loc : Int) (hn : n ≤ 4096)
    (hI : ∀ i, i < n → w.cell? ⟨Ib, i, none⟩ = some (.bool (isS i))) (zI : Ib < w.heap.size) (hV : ∀ i, i < n → w.cell? ⟨Vb, i, none⟩ = some (vv i) ∧ Ex w w.heap.size (vv i) (V i)) (zV : Vb < w.heap.size)
    (hT : ∀ i, i < n → w.cell? ⟨Tb, i, none⟩ = some (tv i) ∧ Ex w w.heap.size (tv i) (T i)) (zT : Tb < w.heap.size) (hh : Ex w w.heap.size vh hd) :
    Calls Tryd.prog 8 #[.int .i32 loc, vh, .slice (some ⟨Ib, 0, none⟩) n n, .slice (some ⟨Vb, 0, none⟩) n n, .slice (some ⟨Tb, 0, none⟩) n n, .bool tagged] w (Tmpl w n vh isS vv tv tagged loc) := by
  obtain ⟨i0, gi, gz0, gz1, gz2⟩ := info_three info_tp
  have hmk := run_make (P := Tryd.prog) w 46 54 i0 (.agg zTp) Tryd.underlying46 gi gz0 .i64 .i64 n n (by omega) (by omega) (by rw [gz2]; omega) (by omega)
  simp only [gz1, Int.toNat_natCast] at hmk
  have HI := Lib.hid hI
  have HV := Lib.hid hV
  have HT := Lib.hid hT
  have HH := Lib.hid hh
  obtain ⟨ah, ch, hvh⟩ := hh.row.form
  have HVH := Lib.hid hvh
  clear hI hV hT hh gi gz0 gz1 gz2
  go_enter Tryd.func8, Tryd.ntmps8
  go_wp2_with fail
  clear hmk
  go_loopw [14] (fun v wr => ∃ k : Nat, k ≤ n ∧ v = .int .i64 k ∧ Hid (PartsUp wr w.heap.size w.heap.size n k isS vv tv ∧ Below w.heap.size w wr)) (fun v _ => n - (intOf v).toNat)
  case atStart =>
    refine ⟨0, by omega, rfl, ?_, (Below.refl _ _).alloc (Nat.le_refl _) _⟩
    exact ⟨_, Rw.made w 54 n 5 zTp rfl (by omega), fun i hi => ⟨rfl, rfl, rfl⟩, fun i hi => by omega⟩
  case round =>
    obtain ⟨k, hk, rfl, H⟩ := hrel
    by_cases hlt : k < n
    · have z0 := H.out.2.size
      have l0 : (0 : Int) ≤ (k : Int) := by omega
      have l1 : (k : Int) < (n : Int) := by omega
      have c1 : wr.cell? ⟨Ib, k, none⟩ = some (.bool (isS k)) := (H.out.2.cell (p := ⟨Ib, k, none⟩) zI).trans (HI.out k hlt)
      have c2 : wr.cell? ⟨Vb, k, none⟩ = some (vv k) := (H.out.2.cell (p := ⟨Vb, k, none⟩) zV).trans (HV.out k hlt).1
      have c3 : wr.cell? ⟨Tb, k, none⟩ = some (tv k) := (H.out.2.cell (p := ⟨Tb, k, none⟩) zT).trans (HT.out k hlt).1
      have zI1 : Ib < wr.heap.size := by omega
      have zV1 : Vb < wr.heap.size := by omega
      have zT1 : Tb < wr.heap.size := by omega
      obtain ⟨av, cv, hvv⟩ := (HV.out k hlt).2.row.form
      obtain ⟨at', ct, htt⟩ := (HT.out k hlt).2.row.form
      have HVV := Lib.hid hvv
      have HTT := Lib.hid htt
      rw [hvv] at c2
      rw [htt] at c3
      obtain ⟨f, hrw, hf1, hf2⟩ := H.out.1
      have d0 := hrw.cell (i := k) (j := 0) hlt (by omega)
      have d1 := hrw.cell (i := k) (j := 1) hlt (by omega)
      have d3 := hrw.cell (i := k) (j := 3) hlt (by omega)
      rw [Nat.add_zero] at d0
      have f0 := hrw.frozen (k * 5)
      have f1 := hrw.frozen (k * 5 + 1)
      have f3 := hrw.frozen (k * 5 + 3)
      have zK := hrw.lt
      have hu32 : (k : Int) % 4294967296 = (k : Int) := by omega
      have hu32' : IntKind.u32.wrap (k : Int) = (k : Int) := u32_small k (by omega)
      obtain ⟨b, hb⟩ : ∃ b, b = isS k := ⟨_, rfl⟩
      rw [← hb] at c1
      have HBB := Lib.hid hb
      clear hrw hf1 hf2 hvv htt hb
      cases b
      · go_wp2_with fail
        go_roundw
        case rel => exact ⟨k + 1, by omega, by go_num, parts_step H.out.1 hlt z0 _ _ _ _ (.inr ⟨HBB.out.symm, rfl, rfl, rfl⟩) HTT.out.symm, (((H.out.2.setCell (Nat.le_refl _) _).setCell (Nat.le_refl _) _).setCell (Nat.le_refl _) _).alloc (by simp; omega) _⟩
        case measure => simp [intOf]; omega
      · go_wp2_with fail
        go_roundw
        case rel => exact ⟨k + 1, by omega, by go_num, parts_step H.out.1 hlt z0 _ _ _ _ (.inl ⟨HBB.out.symm, rfl, rfl, by rw [HVV.out]⟩) HTT.out.symm, (((H.out.2.setCell (Nat.le_refl _) _).setCell (Nat.le_refl _) _).setCell (Nat.le_refl _) _).alloc (by simp; omega) _⟩
        case measure => simp [intOf]; omega
    · obtain rfl : k = n := by omega
      rw [HVH.out]
      have z0 := H.out.2.size
      have zk := H.out.1.lt
      cases tagged
      · go_wp2_with fail
        go_ret
        exact ⟨wr.heap.size, w.heap.size, _, rfl, (by rw [HVH.out]; exact Bk.new wr _ _), .inl ⟨rfl, rfl⟩, z0, Nat.le_refl _, by simp; omega, H.out.1.alloc _, H.out.2.alloc z0 _⟩
      · go_wp2_with fail
        go_ret
        exact ⟨wr.heap.size, w.heap.size, _, rfl, (by rw [HVH.out]; exact (Bk.new wr _ _).alloc _), .inr ⟨rfl, _, rfl⟩, z0, Nat.le_refl _, by simp; omega, (H.out.1.alloc _).alloc _, (H.out.2.alloc z0 _).alloc (by simp; omega) _⟩

end Go.Proofs.YtlmjnlijoodbiaaDoor
