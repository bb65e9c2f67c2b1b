/-
  Lemmas shared by several laws of this seat; no statement of their own.
-/
import Derived.Test.YtdjiekejkjgamaaRows
import Derived.WalkKit
import Derived.ProofKit
import Derived.OpenShut
import Derived.Test.YtdjiekejkjgamaaSlW
import Derived.Test.YtdjiekejkjgamaaExtW
import Derived.Test.YtdjiekejkjgamaaAcU
import Derived.Test.YtdjiekejkjgamaaAcR
import Derived.Test.YtdjiekejkjgamaaAcV
import Derived.Test.YtdjiekejkjgamaaAcI
import Derived.Test.YtdjiekejkjgamaaAcB
import Derived.WalkLawsBesides
import Derived.WalkSpells
import Derived.Below
import Derived.Lib.Hide
import Derived.Outline
import Derived.Laws.MakeOwn
import Derived.Laws.OwnMore
import Derived.OwnWalk
import Derived.LoopTactic
import Derived.Deep.Cut
import Derived.Deep.RegionHeld3
namespace Go.Proofs.Ytdjiekejkjgamaa
open Go.ChangeShapes Go.WideShapes Go.ChangeAt Go.RowKit

set_option linter.unusedVariables false

def nameAt (ns : List ByteArray) (i : Nat) : ByteArray := ns[i]?.getD ⟨#[]⟩
theorem name_any (A : Option Addr) (n c : Nat) (ns : List ByteArray) (i : Nat) (w : World) (hs : Sl w w.heap.size A n (ns.map Value.string)) (hn : n ≤ 9223372036854775807) (hi : i ≤ 9223372036854775807) :
    Calls Try.prog 11 #[.slice A n c, .int .i64 i] w fun e w' => e = .returned (.string (nameAt ns i)) ∧ w = w' := by
  have hl : ns.length = n := by have := hs.1; simpa using this
  by_cases h : i < n
  · obtain ⟨b, off, u, rfl, hb, hu, hc⟩ := hs.at_ h
    obtain ⟨s, hx, rfl⟩ : ∃ s, ns[i]? = some s ∧ Value.string s = u := by simpa using hu
    have e : nameAt ns i = s := by unfold nameAt; rw [hx]; rfl
    rw [e]
    clear hs hl hu hx e
    go_enter Try.func11, Try.ntmps11
    go_wp2_with fail
    go_ret
    exact ⟨rfl, rfl⟩
  · have e : nameAt ns i = ⟨#[]⟩ := by unfold nameAt; rw [List.getElem?_eq_none (by omega)]; rfl
    rw [e]
    clear hs hl e
    go_enter Try.func11, Try.ntmps11
    go_wp2_with fail
    go_ret
    exact ⟨rfl, rfl⟩
def steps (cs : List Int) (ns : List ByteArray) : Nat → List (Int × ByteArray)
  | 0 => []
  | k + 1 => ((cs[k]?.getD 0) % 3, nameAt ns k) :: steps cs ns k
theorem ext_set' {X : Nat → Prop} {w w1 : World} {b o : Nat} {v : Value} (h : Ext X w w1) (hx : X b) : Ext X w (w1.setCell ⟨b, o, none⟩ v) := h.trans (ext_set w1 b o v hx)
theorem ext_alloc' {X : Nat → Prop} {w w1 : World} {o : Obj} (h : Ext X w w1) : Ext X w (w1.alloc o) := h.trans (ext_alloc w1 o)
structure At1 (w : World) (b : Nat) (d : Value) : Prop where
  c0 : w.cell? ⟨b, 0, none⟩ = some d
  c1 : w.cell? ⟨b, 1, none⟩ = some (.int .i32 0)
  f0 : w.frozen? ⟨b, 0, none⟩ = false
  f1 : w.frozen? ⟨b, 1, none⟩ = false
/-- The boxes of zzBuildChain that are written: the result, the cursor, the nodes. -/
def bxs (H : Nat) : Nat → Prop := fun b => b = H ∨ b = H + 1 + 1 ∨ b = H + 1 + 1 + 1
structure CRel (w : World) (r : Int) (cs : List Int) (ns : List ByteArray) (n k : Nat) (d : Value) (xs : List Value) (wr : World) : Prop where
  rb : At1 wr w.heap.size .nilIface
  cb : At1 wr (w.heap.size + 1 + 1) d
  nd : wr.ownsRow w.heap.size 53 3 (.slice (some ⟨w.heap.size + 1 + 1 + 1, 0, none⟩) n n) n xs
  rep : Rep (bxs w.heap.size) wr r (steps cs ns k) d
  bl : Below w.heap.size w wr
  sz : w.heap.size + 1 + 1 + 1 < wr.heap.size
theorem cell_block {w w' : World} {b : Nat} (h : w'.heap[b]? = w.heap[b]?) (o : Nat) : w'.cell? ⟨b, o, none⟩ = w.cell? ⟨b, o, none⟩ := by simp [World.cell?, h]
theorem frozen_block {w w' : World} {b : Nat} (h : w'.heap[b]? = w.heap[b]?) (o : Nat) : w'.frozen? ⟨b, o, none⟩ = w.frozen? ⟨b, o, none⟩ := by simp [World.frozen?, h]
theorem At1.block {w w' : World} {b : Nat} {d : Value} (h : At1 w b d) (hb : w'.heap[b]? = w.heap[b]?) : At1 w' b d :=
  ⟨by rw [cell_block hb]; exact h.c0, by rw [cell_block hb]; exact h.c1, by rw [frozen_block hb]; exact h.f0, by rw [frozen_block hb]; exact h.f1⟩
theorem At1.set {w : World} {b : Nat} {d : Value} (d' : Value) (h : At1 w b d) : At1 ((w.setCell ⟨b, 0, none⟩ d').setCell ⟨b, 1, none⟩ (.int .i32 0)) b d' := by
  obtain ⟨c0, c1, f0, f1⟩ := h
  constructor <;> simp [go_sem, *]
theorem own_block {w w' : World} {H : Nat} {e : TypeId} {sz g n cap : Nat} {xs : List Value} (h : w.ownsRow H e sz (.slice (some ⟨g, 0, none⟩) n cap) n xs) (hb : w'.heap[g]? = w.heap[g]?) : w'.ownsRow H e sz (.slice (some ⟨g, 0, none⟩) n cap) n xs := by
  refine ⟨h.1, ?_⟩
  rcases h.2 with ⟨h', _⟩ | ⟨g', cap', cur, h', hb', hgg, rest⟩
  · cases h'
  · refine .inr ⟨g', cap', cur, h', hb', ?_, rest⟩
    have e : g = g' := by simp at h'; exact h'.1
    rw [← e] at hgg ⊢
    rw [hb]; exact hgg
/-- The five stores of a round. -/
def five (wr : World) (H k : Nat) (p0 p1 p2 d : Value) : World := ((((wr.setCell ⟨H + 1 + 1 + 1, k * 3, none⟩ p0).setCell ⟨H + 1 + 1 + 1, k * 3 + 1, none⟩ p1).setCell ⟨H + 1 + 1 + 1, k * 3 + 2, none⟩ p2).setCell ⟨H + 1 + 1, 0, none⟩ d).setCell ⟨H + 1 + 1, 1, none⟩ (.int .i32 0)
theorem five_size (wr : World) (H k : Nat) (p0 p1 p2 d : Value) : (five wr H k p0 p1 p2 d).heap.size = wr.heap.size := by unfold five; simp
theorem five_ext (wr : World) (H k : Nat) (p0 p1 p2 d : Value) : Ext (bxs H) wr (five wr H k p0 p1 p2 d) := by
  unfold five
  exact ext_set' (ext_set' (ext_set' (ext_set' (ext_set' (Ext.refl _ _) (.inr (.inr rfl))) (.inr (.inr rfl))) (.inr (.inr rfl))) (.inr (.inl rfl))) (.inr (.inl rfl))
theorem CRel.next {w wr w' : World} {r : Int} {cs : List Int} {ns : List ByteArray} {n k : Nat} {d d' : Value} {xs : List Value} (C : CRel w r cs ns n k d xs wr) (p0 p1 p2 : Value) (hw : Below wr.heap.size (five wr w.heap.size k p0 p1 p2 d') w') (hr : Rep (bxs w.heap.size) w' r (steps cs ns (k + 1)) d') :
    ∃ ys, CRel w r cs ns n (k + 1) d' ys w' := by
  have z := C.sz
  have a2 := (C.nd.stored (k * 3) p0).1
  have a3 := (a2.stored (k * 3 + 1) p1).1
  have a4 := (a3.stored (k * 3 + 2) p2).1
  have k0 : ∀ b, b < wr.heap.size → w'.heap[b]? = (five wr w.heap.size k p0 p1 p2 d').heap[b]? := fun b hb => hw.block b hb
  refine ⟨_, ⟨C.rb.block ?_, ?_, own_block a4 ?_, hr, ?_, by have := hw.size; rw [five_size] at this; omega⟩⟩
  · rw [k0 _ (by omega)]
    unfold five
    rw [Below.heap_setCell _ _ _ _ (by simp <;> omega), Below.heap_setCell _ _ _ _ (by simp <;> omega), Below.heap_setCell _ _ _ _ (by simp <;> omega), Below.heap_setCell _ _ _ _ (by simp <;> omega), Below.heap_setCell _ _ _ _ (by simp <;> omega)]
  · have h : At1 (((wr.setCell ⟨w.heap.size + 1 + 1 + 1, k * 3, none⟩ p0).setCell ⟨w.heap.size + 1 + 1 + 1, k * 3 + 1, none⟩ p1).setCell ⟨w.heap.size + 1 + 1 + 1, k * 3 + 2, none⟩ p2) (w.heap.size + 1 + 1) d := C.cb.block (by rw [Below.heap_setCell _ _ _ _ (by simp <;> omega), Below.heap_setCell _ _ _ _ (by simp <;> omega), Below.heap_setCell _ _ _ _ (by simp <;> omega)])
    exact (h.set d').block (k0 _ (by omega))
  · rw [k0 _ (by omega)]
    unfold five
    rw [Below.heap_setCell _ _ _ _ (by simp <;> omega), Below.heap_setCell _ _ _ _ (by simp <;> omega)]
  · refine Below.trans ?_ (hw.mono (by omega))
    unfold five
    exact ((((C.bl.setCell (by simp <;> omega) _).setCell (by simp <;> omega) _).setCell (by simp <;> omega) _).setCell (by simp <;> omega) _).setCell (by simp <;> omega) _
theorem new_cell (W : World) (cs : Array Value) (t : TypeId) (b j : Nat) (v : Value) (hb : W.heap.size = b) (hv : cs[j]? = some v) : (W.alloc (.cells cs t)).cell? ⟨b, j, none⟩ = some v := by subst hb; simp [hv]
theorem CRel.later {w wr wq : World} {r : Int} {cs : List Int} {ns : List ByteArray} {n k : Nat} {d : Value} {xs : List Value} (C : CRel w r cs ns n k d xs wr) (h : Below wr.heap.size wr wq) : CRel w r cs ns n k d xs wq := by
  have z := C.sz
  have z' := C.bl.size
  exact ⟨C.rb.block (h.block _ (by omega)), C.cb.block (h.block _ (by omega)), own_block C.nd (h.block _ (by omega)), C.rep.later h, C.bl.trans (h.mono z'), by have := h.size; omega⟩
theorem kept3 {wr : World} {b : Nat} (w' : World) (hb : b < wr.heap.size) (h : Below wr.heap.size wr w') (o : Nat) : w'.cell? ⟨b, o, none⟩ = wr.cell? ⟨b, o, none⟩ := h.cell (p := ⟨b, o, none⟩) hb
theorem info_n : (Try.prog.info? 53).map (fun i => (i.zero, i.size, i.bytes)) = some (some (.agg #[.pointer none, .pointer none, .pointer none]), 3, 24) := by kernel_rfl
def Built (r : Int) (ss : List (Int × ByteArray)) (w : World) (e : Ending) (w' : World) : Prop := ∃ T v A n c, e = .returned (.tuple #[.agg #[.iface T v, .int .i32 0], .slice A n c]) ∧ Rep (fun _ => False) w' r ss (.iface T v) ∧ Below w.heap.size w w'
set_option maxRecDepth 100000 in
set_option maxHeartbeats 2000000 in
theorem chain_any (r : Int) (A D : Option Addr) (n m c c' : Nat) (cs : List Int) (ns : List ByteArray) (w : World) (hs : Sl w w.heap.size A n (cs.map (Value.int .u8))) (ht : Sl w w.heap.size D m (ns.map Value.string)) (hcs : ∀ x ∈ cs, 0 ≤ x ∧ x ≤ 255) (hns : ∀ s ∈ ns, s.size ≤ big20) (hn : n ≤ 65536) (hm : m ≤ 65536) :
    Calls Try.prog 8 #[.int .u32 r, .slice A n c, .slice D m c'] w (Built r (steps cs ns n) w) := by
  have S := Lib.hid hs
  have T := Lib.hid ht
  have O := Lib.hid hcs
  have P := Lib.hid hns
  clear hs ht hcs hns
  obtain ⟨i0, hi, hz0, hz1, hz2⟩ := info_three info_n
  have hmk := fun w : World => run_make (P := Try.prog) w 35 53 i0 _ Try.underlying35 hi hz0 .i64 .i64 n n (by omega) (by omega) (by rw [hz2]; omega) (by omega)
  simp only [hz1, Int.toNat_natCast] at hmk
  clear hi hz0 hz1 hz2
  go_enter Try.func8, Try.ntmps8
  go_wp2_with fail
  clear hmk i0
  go_loopw [10, 11, 12, 13, 14, 15] (fun i _ _ _ _ _ wr => ∃ (k : Nat) (T : TypeId) (v : Value) (xs : List Value), k ≤ n ∧ i = .int .i64 k ∧ Hid (CRel w r cs ns n k (.iface T v) xs wr)) (fun i _ _ _ _ _ _ => n - (intOf i).toNat)
  case atStart =>
    refine ⟨0, _, _, (madeCells #[.pointer none, .pointer none, .pointer none] (n * 3)).toList, by omega, rfl, ⟨?_, ?_, ?_, ⟨w.heap.size + 1, rfl, ⟨by simp <;> omega, by unfold bxs; omega⟩, by simp [go_sem], by simp [go_sem]⟩, ?_, by simp⟩⟩
    rotate_left 2
    · have own := World.ownsRow_lit (base := w.heap.size) (e := 53) (size := 3) (((w.alloc (.cells #[.nilIface, .int .i32 0] 34)).alloc (.cells #[.int .u32 0, .int .u32 r, .bool false, .bool false, .bool false] 44)).alloc (.cells #[.iface 40 (.pointer (some ⟨w.heap.size + 1, 0, none⟩)), .int .i32 0] 34)) (madeCells #[.pointer none, .pointer none, .pointer none] (n * 3)) n (by simp <;> omega) (by unfold maxLen; omega) (by simp [madeCells])
      simpa using own
    · exact ((((Below.refl _ _).alloc (Nat.le_refl _) _).alloc (by simp) _).alloc (by simp <;> omega) _).alloc (by simp <;> omega) _
    · constructor <;> simp [go_sem]
    · constructor <;> simp [go_sem]
  case round =>
    obtain ⟨k, T0, v0, xs, hk, rfl, C⟩ := hrel
    obtain ⟨r0, r1, r2, r3⟩ := C.out.rb
    obtain ⟨c0, c1, c2, c3⟩ := C.out.cb
    have z3 := C.out.sz
    have z2 : w.heap.size + 1 + 1 < wr.heap.size := by omega
    have z0 : w.heap.size < wr.heap.size := by omega
    by_cases hlt : k < n
    · have s1 : Sl wr wr.heap.size A n (cs.map (Value.int .u8)) := (S.out.below C.out.bl).more C.out.bl.size
      have t1 : Sl wr wr.heap.size D m (ns.map Value.string) := (T.out.below C.out.bl).more C.out.bl.size
      obtain ⟨b, off, u, rfl, hb, hu, hx⟩ := s1.at_ hlt
      obtain ⟨x, hx', rfl⟩ : ∃ x, cs[k]? = some x ∧ Value.int .u8 x = u := by simpa using hu
      obtain ⟨x0, x1⟩ := O.out x (List.mem_of_getElem? hx')
      have EX := Lib.hid (show cs[k]?.getD 0 = x by rw [hx']; rfl)
      have NA := Lib.hid (fun w' : World => fun h => name_any D m c' ns k w' h (by omega) (by omega))
      have T1 := Lib.hid t1
      have lx : xs.length = n * 3 := C.out.nd.1
      have n0 : wr.cell? ⟨w.heap.size + 1 + 1 + 1, k * 3, none⟩ = some (xs[k * 3]'(by omega)) := by rw [C.out.nd.cellAt _ (by omega)]; exact List.getElem?_eq_getElem _
      have n1 : wr.cell? ⟨w.heap.size + 1 + 1 + 1, k * 3 + 1, none⟩ = some (xs[k * 3 + 1]'(by omega)) := by rw [C.out.nd.cellAt _ (by omega)]; exact List.getElem?_eq_getElem _
      have n2 : wr.cell? ⟨w.heap.size + 1 + 1 + 1, k * 3 + 2, none⟩ = some (xs[k * 3 + 2]'(by omega)) := by rw [C.out.nd.cellAt _ (by omega)]; exact List.getElem?_eq_getElem _
      have m0 : wr.frozen? ⟨w.heap.size + 1 + 1 + 1, k * 3, none⟩ = false := C.out.nd.frozenAt _
      have m1 : wr.frozen? ⟨w.heap.size + 1 + 1 + 1, k * 3 + 1, none⟩ = false := C.out.nd.frozenAt _
      have m2 : wr.frozen? ⟨w.heap.size + 1 + 1 + 1, k * 3 + 2, none⟩ = false := C.out.nd.frozenAt _
      clear hu hx' s1 t1
      have hc : x % 3 = 0 ∨ x % 3 = 1 ∨ x % 3 = 2 := by omega
      rcases hc with hc | hc | hc
      · go_wp2_with fail
        refine (NA.out _ T1.out).mono ?_
        rintro e w1 ⟨rfl, rfl⟩
        go_wp2_with fail
        have hw : Below wr.heap.size (five wr w.heap.size k (.pointer (some ⟨wr.heap.size, 0, none⟩)) (.pointer none) (.pointer none) (.iface 46 (.pointer (some ⟨wr.heap.size, 0, none⟩)))) ((five wr w.heap.size k (.pointer (some ⟨wr.heap.size, 0, none⟩)) (.pointer none) (.pointer none) (.iface 46 (.pointer (some ⟨wr.heap.size, 0, none⟩)))).alloc (.cells #[.iface T0 v0, .int .i32 0, .string (nameAt ns k), .int .i32 0, .int .u8 0, .bool false, .bool false, .bool false] 49)) := (Below.refl _ _).alloc (by rw [five_size]; exact Nat.le_refl _) _
        obtain ⟨ys, CN⟩ := C.out.next _ _ _ hw (.inl ⟨by rw [EX.out]; exact hc, wr.heap.size, .iface T0 v0, rfl, ⟨by simp [five_size], by unfold bxs; omega⟩, ⟨new_cell _ _ _ _ 0 _ (five_size _ _ _ _ _ _ _) rfl, new_cell _ _ _ _ 2 _ (five_size _ _ _ _ _ _ _) rfl, new_cell _ _ _ _ 4 _ (five_size _ _ _ _ _ _ _) rfl, new_cell _ _ _ _ 5 _ (five_size _ _ _ _ _ _ _) rfl, new_cell _ _ _ _ 6 _ (five_size _ _ _ _ _ _ _) rfl, new_cell _ _ _ _ 7 _ (five_size _ _ _ _ _ _ _) rfl⟩, Rep.keep (by simp [five_size]) (fun b o hb hx => (ext_alloc' (five_ext wr w.heap.size k _ _ _ _)).2 b o hb hx) (fun _ _ h => h) C.out.rep⟩)
        exact ⟨⟨k + 1, _, _, ys, by omega, by go_num, CN⟩, by simp [intOf]; omega⟩
      · have hsz : (nameAt ns k).size ≤ big20 := by
          unfold nameAt
          cases hq : ns[k]? with
          | none => exact Nat.zero_le _
          | some q => exact P.out q (List.mem_of_getElem? hq)
        have HS := Lib.hid hsz
        clear hsz
        go_wp2_with fail
        refine (NA.out _ T1.out).mono ?_
        rintro e w1 ⟨rfl, rfl⟩
        go_upto_region 13 with fail
        have KK := Lib.hid (show ∀ W, Below wr.heap.size wr W → W.cell? ⟨w.heap.size + 1 + 1, 0, none⟩ = some (.iface T0 v0) ∧ W.cell? ⟨w.heap.size + 1 + 1, 1, none⟩ = some (.int .i32 0) from fun W h => ⟨(kept3 W z2 h 0).trans c0, (kept3 W z2 h 1).trans c1⟩)
        go_region_held3 (fun w' => w'.cell? ⟨w.heap.size + 1 + 1, 0, none⟩ = some (.iface T0 v0) ∧ w'.cell? ⟨w.heap.size + 1 + 1, 1, none⟩ = some (.int .i32 0)) ((refine KK.out _ ?_; (repeat (first | exact Below.refl _ _ | refine Below.drew ?_ | refine Below.alloc ?_ (by simp <;> omega) _)))) (first | (go_at_call 12; refine (utf_any _ _ HS.out).mono ?_; rintro e w' ⟨rfl, rfl⟩))
        go_upto_region 14 with fail
        obtain ⟨wq, hwq⟩ : ∃ wq, wq = (((wr.alloc (.cells ((units (nameAt ns k)).map (Value.int .u16)).toArray 98)).alloc (.cells #[.slice (some ⟨wr.heap.size, 0, none⟩) (nameAt ns k).size (nameAt ns k).size, .int .i32 0, .bool false, .bool false, .bool false] 58)).alloc (.cells #[.iface T0 v0, .int .i32 0, .iface 54 (.pointer (some ⟨wr.heap.size + 1, 0, none⟩)), .int .i32 0, .int .i32 0, .int .u8 0, .bool false, .bool false, .bool false] 60)).drew := ⟨_, rfl⟩
        rw [← hwq]
        have hbq : Below wr.heap.size wr wq := by rw [hwq]; exact ((((Below.refl _ _).alloc (Nat.le_refl _) _).alloc (by simp) _).alloc (by simp <;> omega) _).drew
        have Cq := Lib.hid (C.out.later hbq)
        have IA := Lib.hid (show IdxAt wq (wr.heap.size + 1 + 1) (.iface T0 v0) (.iface 54 (.pointer (some ⟨wr.heap.size + 1, 0, none⟩))) ∧ wq.cell? ⟨wr.heap.size + 1, 0, none⟩ = some (.slice (some ⟨wr.heap.size, 0, none⟩) (nameAt ns k).size (nameAt ns k).size) ∧ ∀ j u, ((units (nameAt ns k)).map (Value.int .u16))[j]? = some u → wq.cell? ⟨wr.heap.size, 0 + j, none⟩ = some u by
          rw [hwq]
          refine ⟨by constructor <;> simp [go_sem], by simp [go_sem], fun j u hu => ?_⟩
          simp [go_sem] at hu ⊢; exact hu)
        have szq : wr.heap.size + 1 + 1 < wq.heap.size := by rw [hwq]; simp
        have ul : (units (nameAt ns k)).length = (nameAt ns k).size := by have := units_len (nameAt ns k); simpa using this
        have UL := Lib.hid ul
        clear hwq ul r0 r1 r2 r3 c0 c1 c2 c3 n0 n1 n2 m0 m1 m2 hbq
        obtain ⟨r0, r1, r2, r3⟩ := Cq.out.rb
        obtain ⟨c0, c1, c2, c3⟩ := Cq.out.cb
        have n0 : wq.cell? ⟨w.heap.size + 1 + 1 + 1, k * 3, none⟩ = some (xs[k * 3]'(by omega)) := by rw [Cq.out.nd.cellAt _ (by omega)]; exact List.getElem?_eq_getElem _
        have n1 : wq.cell? ⟨w.heap.size + 1 + 1 + 1, k * 3 + 1, none⟩ = some (xs[k * 3 + 1]'(by omega)) := by rw [Cq.out.nd.cellAt _ (by omega)]; exact List.getElem?_eq_getElem _
        have n2 : wq.cell? ⟨w.heap.size + 1 + 1 + 1, k * 3 + 2, none⟩ = some (xs[k * 3 + 2]'(by omega)) := by rw [Cq.out.nd.cellAt _ (by omega)]; exact List.getElem?_eq_getElem _
        have m0 : wq.frozen? ⟨w.heap.size + 1 + 1 + 1, k * 3, none⟩ = false := Cq.out.nd.frozenAt _
        have m1 : wq.frozen? ⟨w.heap.size + 1 + 1 + 1, k * 3 + 1, none⟩ = false := Cq.out.nd.frozenAt _
        have m2 : wq.frozen? ⟨w.heap.size + 1 + 1 + 1, k * 3 + 2, none⟩ = false := Cq.out.nd.frozenAt _
        go_wp2_with fail
        have ext := five_ext wq w.heap.size k (.pointer none) (.pointer (some ⟨wr.heap.size + 1 + 1, 0, none⟩)) (.pointer none) (.iface 50 (.pointer (some ⟨wr.heap.size + 1 + 1, 0, none⟩)))
        have nb : ∀ b, wr.heap.size ≤ b → ¬ bxs w.heap.size b := fun b h hx => by unfold bxs at hx; omega
        obtain ⟨ia, ic, ir⟩ := IA.out
        obtain ⟨ys, CN⟩ := Cq.out.next (.pointer none) (.pointer (some ⟨wr.heap.size + 1 + 1, 0, none⟩)) (.pointer none) (Below.refl _ (five wq w.heap.size k (.pointer none) (.pointer (some ⟨wr.heap.size + 1 + 1, 0, none⟩)) (.pointer none) (.iface 50 (.pointer (some ⟨wr.heap.size + 1 + 1, 0, none⟩))))) (.inr (.inl ⟨by rw [EX.out]; exact hc, wr.heap.size + 1 + 1, .iface T0 v0, wr.heap.size + 1, wr.heap.size, (nameAt ns k).size, rfl, ⟨by rw [five_size]; omega, nb _ (by omega)⟩, ⟨by rw [five_size]; omega, nb _ (by omega)⟩, ⟨by rw [five_size]; omega, nb _ (by omega)⟩, ia.keep (fun o => ext.2 _ o (by omega) (nb _ (by omega))), by rw [ext.2 _ _ (by omega) (nb _ (by omega)), UL.out]; exact ic, by rw [UL.out]; exact HS.out, fun j u hu => by rw [ext.2 _ _ (by omega) (nb _ (by omega))]; exact ir j u hu, Rep.keep ext.1 (fun b o hb hx => ext.2 b o hb hx) (fun _ _ h => h) Cq.out.rep⟩))
        exact ⟨⟨k + 1, _, _, ys, by omega, by go_num, CN⟩, by simp [intOf]; omega⟩
      · go_wp2_with fail
        refine (NA.out _ T1.out).mono ?_
        rintro e w1 ⟨rfl, rfl⟩
        go_wp2_with fail
        have hw : Below wr.heap.size (five wr w.heap.size k (.pointer none) (.pointer none) (.pointer (some ⟨wr.heap.size, 0, none⟩)) (.iface 51 (.pointer (some ⟨wr.heap.size, 0, none⟩)))) ((five wr w.heap.size k (.pointer none) (.pointer none) (.pointer (some ⟨wr.heap.size, 0, none⟩)) (.iface 51 (.pointer (some ⟨wr.heap.size, 0, none⟩)))).alloc (.cells #[.iface T0 v0, .int .i32 0, .slice none 0 0, .int .i32 0, .int .u8 0, .int .u8 0, .bool false, .bool false] 64)) := (Below.refl _ _).alloc (by rw [five_size]; exact Nat.le_refl _) _
        obtain ⟨ys, CN⟩ := C.out.next _ _ _ hw (.inr (.inr ⟨by rw [EX.out]; exact hc, wr.heap.size, .iface T0 v0, rfl, ⟨by simp [five_size], by unfold bxs; omega⟩, ⟨new_cell _ _ _ _ 0 _ (five_size _ _ _ _ _ _ _) rfl, new_cell _ _ _ _ 2 _ (five_size _ _ _ _ _ _ _) rfl, new_cell _ _ _ _ 4 _ (five_size _ _ _ _ _ _ _) rfl, new_cell _ _ _ _ 5 _ (five_size _ _ _ _ _ _ _) rfl, new_cell _ _ _ _ 7 _ (five_size _ _ _ _ _ _ _) rfl⟩, Rep.keep (by simp [five_size]) (fun b o hb hx => (ext_alloc' (five_ext wr w.heap.size k _ _ _ _)).2 b o hb hx) (fun _ _ h => h) C.out.rep⟩))
        exact ⟨⟨k + 1, _, _, ys, by omega, by go_num, CN⟩, by simp [intOf]; omega⟩
    · obtain rfl : k = n := by omega
      go_wp2_with fail
      refine bodyPost_ret (v := .tuple #[.agg #[.iface T0 v0, .int .i32 0], .slice (some ⟨w.heap.size + 1 + 1 + 1, 0, none⟩) k k]) (by simp [results, Try.results8, go_sem, *]) rfl ⟨T0, v0, _, _, _, rfl, ?_, ?_⟩
      · exact Rep.keep (by simp) (fun b o hb hx => (ext_set' (ext_set' (Ext.refl (bxs w.heap.size) wr) (.inl rfl)) (.inl rfl)).2 b o hb hx) (fun _ _ h => h.elim) C.out.rep
      · exact (C.out.bl.setCell (by simp) _).setCell (by simp) _

end Go.Proofs.Ytdjiekejkjgamaa
