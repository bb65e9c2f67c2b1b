/-
  zzBuildBinding: the tree that it builds, by what the visitor collects on it; no statement of its own.
-/
import Derived.Test.YtbmmmgccmkompacRows
import Derived.WalkKit
import Derived.ProofKit
import Derived.OpenShut
import Derived.Test.YtbmmmgccmkompacSlW
import Derived.Test.YtbmmmgccmkompacFeA
import Derived.Test.YtbmmmgccmkompacFeB
import Derived.WalkLawsBesides
import Derived.WalkSpells
import Derived.Below
import Derived.Lib.Hide
import Derived.Outline
import Derived.LoopTactic
import Derived.OwnWalk
import Derived.Laws.OwnMore
import Derived.Maps.AppendAt
namespace Go.Proofs.Ytbmmmgccmkompac
open Go.ChangeShapes Go.WideShapes Go.ChangeAt Go.RowKit

set_option linter.unusedVariables false

/-- The positions p .. q of the code that hold an identifier. -/
def idp (zs : List Int) (p q : Nat) : List Nat := (List.range' p (q - p)).filter fun i => zs.getD i 0 % 4 == 1
theorem idp_self (zs : List Int) (p : Nat) : idp zs p p = [] := by unfold idp; simp
theorem idp_app (zs : List Int) (p q r : Nat) (h1 : p ≤ q) (h2 : q ≤ r) : idp zs p q ++ idp zs q r = idp zs p r := by
  unfold idp
  have h := List.range'_append_1 (s := p) (m := q - p) (n := r - q)
  rw [show p + (q - p) = q by omega, show (q - p) + (r - q) = r - p by omega] at h
  rw [← List.filter_append, h]
theorem idp_one (zs : List Int) (p : Nat) : idp zs p (p + 1) = if zs.getD p 0 % 4 = 1 then [p] else [] := by
  unfold idp
  rw [show p + 1 - p = 1 by omega]
  by_cases h : zs.getD p 0 % 4 = 1
  · rw [if_pos h]; simp only [List.range', List.filter_cons, h]; rfl
  · rw [if_neg h]
    have : (zs.getD p 0 % 4 == 1) = false := by simpa using h
    simp only [List.range', List.filter_cons, this]; rfl
theorem idp_len (zs : List Int) (p q : Nat) : (idp zs p q).length ≤ q - p := by
  unfold idp; have := List.length_filter_le (fun i => zs.getD i 0 % 4 == 1) (List.range' p (q - p)); simpa using this
def Apart (v : Value) (its : List It) : Prop := ∀ it ∈ its, ∀ g, v.ownBlock = some g → g < it.lo ∨ it.hi ≤ g
theorem grow_step {wr w1 wa w2 : World} {H : Nat} {v v' : Value} {its : List It} {it : It} (hits : Its wr H wr.heap.size its) (hap : Apart v its) (hH : H ≤ wr.heap.size) (hb1 : Below wr.heap.size wr w1) (hwa : Below w1.heap.size w1 wa) (hg : wa.grownBy w2 v.ownBlock)
    (hlt : ∀ g, v.ownBlock = some g → g < wr.heap.size) (hv' : v'.ownBlock = v.ownBlock ∨ v'.ownBlock = some wa.heap.size) (hlo : it.lo = wr.heap.size) (hhi : it.hi = w1.heap.size) (hit : Vis it.lo it.hi w1 it.d it.l it.ids) : Its w2 H w2.heap.size (its ++ [it]) ∧ Apart v' (its ++ [it]) := by
  have s1 := hb1.size
  have s2 := hwa.size
  have s3 := hg.size
  refine ⟨fun x hx => ?_, fun x hx g hg' => ?_⟩
  · rw [List.mem_append, List.mem_singleton] at hx
    rcases hx with hx | rfl
    · obtain ⟨h1, h2, h3⟩ := hits x hx
      refine ⟨h1, by omega, h3.agree fun b hb1' hb2' => ?_⟩
      rw [hg.block b (by omega) (fun e => by have := hap x hx b e.symm; omega), hwa.block b (by omega), hb1.block b (by omega)]
    · refine ⟨by omega, by omega, hit.agree fun b hb1' hb2' => ?_⟩
      rw [hg.block b (by omega) (fun e => by have := hlt b e.symm; omega), hwa.block b (by omega)]
  · rw [List.mem_append, List.mem_singleton] at hx
    rcases hv' with h | h
    · rw [h] at hg'
      rcases hx with hx | rfl
      · exact hap x hx g hg'
      · have := hlt g hg'; omega
    · rw [h] at hg'
      injection hg' with hg'
      rcases hx with hx | rfl
      · have := (hits x hx).2.1; omega
      · omega
theorem row_of_own {w : World} {B n size : Nat} {e : TypeId} {v : Value} {f : It → List Value} {its : List It} {hi : Nat} (h : w.ownsRow B e size v n (its.flatMap f)) (hn : its.length = n) (hhi : w.heap.size ≤ hi) : RowOf w e f v its B hi := by
  rcases h.2 with ⟨rfl, h0⟩ | ⟨g, cap, cur, rfl, hb, hg, _, _, _, ht⟩
  · exact .inl ⟨List.length_eq_zero_iff.1 (by omega), _, _, rfl⟩
  · refine .inr ⟨g, cap, cur, by rw [hn], hb, by have := (Array.getElem?_eq_some_iff.1 hg).1; omega, hg, fun j u hu => ?_⟩
    rw [← ht, List.getElem?_take] at hu
    split at hu
    · rw [← Array.getElem?_toList]; exact hu
    · cases hu
theorem row_form {w : World} {B n size : Nat} {e : TypeId} {v : Value} {xs : List Value} (h : w.ownsRow B e size v n xs) : ∃ a l c, v = .slice a l c := by
  rcases h.2 with ⟨rfl, h0⟩ | ⟨g, cap, cur, rfl, _⟩
  · exact ⟨_, _, _, rfl⟩
  · exact ⟨_, _, _, rfl⟩
theorem RowOf.later {w w' : World} {t : TypeId} {f : It → List Value} {v : Value} {its : List It} {lo hi hi' : Nat} (h : RowOf w t f v its lo hi) (hk : ∀ g cs, Bk w g t cs → Bk w' g t cs) (hh : hi ≤ hi') : RowOf w' t f v its lo hi' := by
  rcases h with h | ⟨g, cap, cur, h1, h2, h3, h4, h5⟩
  · exact .inl h
  · exact .inr ⟨g, cap, cur, h1, h2, by omega, hk _ _ h4, h5⟩
def Bd (zs : List Int) (n pos : Nat) (w : World) (e : Ending) (w' : World) : Prop := ∃ (T : TypeId) (g nx : Nat), e = .returned (.tuple #[.agg #[.iface T (ptr g), .int .i32 (pos : Int)], .int .i64 (nx : Int)]) ∧ pos < nx ∧ nx ≤ n ∧ Below w.heap.size w w' ∧ Hid (Vis w.heap.size w'.heap.size w' (.iface T (ptr g)) (pos : Int) (idp zs pos nx))
theorem arity_any (b : Int) (a : Nat) (w : World) (h0 : 0 ≤ b) (h1 : b < 256) (h2 : 2 ≤ b % 4) (ha : b / 4 % 4 = a) : Calls Try.prog 11 #[.int .u8 b] w fun e w' => e = .returned (.int .i64 (a : Int)) ∧ w = w' := by
  go_enter Try.func11, Try.ntmps11
  go_wp2_with fail
  go_ret
  exact ⟨ret_int ha, rfl⟩
theorem info_ab : (Try.prog.info? 58).map (fun i => (i.zero, i.size, i.bytes)) = some (some (.agg #[.nilIface, .int .i32 0, .nilIface, .int .i32 0, .int .i32 0]), 5, 56) := by kernel_rfl
theorem info_pb : (Try.prog.info? 64).map (fun i => (i.zero, i.size, i.bytes)) = some (some (.agg #[.nilIface, .int .i32 0, .nilIface, .int .i32 0, .nilIface, .int .i32 0, .int .i32 0, .int .i32 0, .bool false, .bool false, .bool false]), 11, 88) := by kernel_rfl
/-- What holds at the head of a round of a loop over the children. -/
structure Rd (e : TypeId) (s : Nat) (f : It → List Value) (zs : List Int) (w : World) (pos m k : Nat) (v : Value) (its : List It) (wr : World) : Prop where
  own : wr.ownsRow w.heap.size e s v k (its.flatMap f)
  hit : Its wr (w.heap.size + 2) wr.heap.size its
  ap : Apart v its
  ids : idsOf its = idp zs (pos + 1) m
  bl : Below w.heap.size w wr
  rb : Bk wr w.heap.size 42 #[.nilIface, .int .i32 0]
  lb : Bk wr (w.heap.size + 1) 31 #[.int .i32 (pos : Int)]
  len : its.length = k
theorem own_below {w w' : World} {B n : Nat} {e : TypeId} {v : Value} {xs : List Value} {size : Nat} (h : w.ownsRow B e size v n xs) (hb : Below w.heap.size w w') : w'.ownsRow B e size v n xs := by
  refine h.kept (row := none) ⟨hb.os, hb.tape, hb.output, hb.size, fun k hk _ => hb.block k hk⟩ ?_
  cases hv : v.ownBlock with
  | none => exact .inl rfl
  | some g => exact .inr (by simp)
/-- The function on what follows position p, with fuel. -/
def Self (zs : List Int) (n : Nat) (A : Option Addr) (c F : Nat) : Prop := ∀ (pos : Nat) (w : World), n - pos ≤ F → pos < n → Sl w w.heap.size A n (zs.map (Value.int .u8)) → Calls Try.prog 9 #[.slice A n c, .int .i64 (pos : Int)] w (Bd zs n pos w)
set_option maxRecDepth 100000 in
set_option maxHeartbeats 1000000 in
theorem build_missing (zs : List Int) (n pos c : Nat) (A : Option Addr) (w : World) (hn : n ≤ 65536) (hz : ∀ z ∈ zs, 0 ≤ z ∧ z < 256) (hp : pos < n) (hs : Sl w w.heap.size A n (zs.map (Value.int .u8))) (hr : zs.getD pos 0 % 4 = 0) :
    Calls Try.prog 9 #[.slice A n c, .int .i64 (pos : Int)] w (Bd zs n pos w) := by
  obtain ⟨bb, off, u, hA, hbb, hu, hx⟩ := hs.at_ hp
  obtain ⟨b, hb0, rfl⟩ : ∃ b, zs[pos]? = some b ∧ Value.int .u8 b = u := by simpa using hu
  have hgd : zs.getD pos 0 = b := by rw [List.getD_eq_getElem?_getD, hb0]; rfl
  rw [hgd] at hr
  have b0 : 0 ≤ b := (hz b (List.mem_of_getElem? hb0)).1
  have b1 : b < 256 := (hz b (List.mem_of_getElem? hb0)).2
  have HG := Lib.hid hgd
  have HS := Lib.hid hs
  clear hs hu hb0 hgd hz
  subst hA
  go_enter Try.func9, Try.ntmps9
  go_wp2_with fail
  refine bodyPost_ret (v := .tuple #[.agg #[.iface 52 (ptr (w.heap.size + 1 + 1)), .int .i32 (pos : Int)], .int .i64 ((pos : Int) + 1)]) (by simp [results, Try.results9, go_sem]) rfl ⟨_, _, pos + 1, rfl, by omega, by omega, ?_, ?_⟩
  · repeat (with_reducible first | exact Below.refl _ _ | refine Below.alloc ?_ (by first | (simp; done) | (simp <;> omega) | omega) _ | refine Below.setCell ?_ (by first | (simp; done) | (simp <;> omega) | omega) _)
  · rw [idp_one, HG.out]
    rw [if_neg (by omega)]; exact vis_missing _ _ _ _ _
set_option maxRecDepth 100000 in
set_option maxHeartbeats 1000000 in
theorem build_ident (zs : List Int) (n pos c : Nat) (A : Option Addr) (w : World) (hn : n ≤ 65536) (hz : ∀ z ∈ zs, 0 ≤ z ∧ z < 256) (hp : pos < n) (hs : Sl w w.heap.size A n (zs.map (Value.int .u8))) (hr : zs.getD pos 0 % 4 = 1) :
    Calls Try.prog 9 #[.slice A n c, .int .i64 (pos : Int)] w (Bd zs n pos w) := by
  obtain ⟨bb, off, u, hA, hbb, hu, hx⟩ := hs.at_ hp
  obtain ⟨b, hb0, rfl⟩ : ∃ b, zs[pos]? = some b ∧ Value.int .u8 b = u := by simpa using hu
  have hgd : zs.getD pos 0 = b := by rw [List.getD_eq_getElem?_getD, hb0]; rfl
  rw [hgd] at hr
  have b0 : 0 ≤ b := (hz b (List.mem_of_getElem? hb0)).1
  have b1 : b < 256 := (hz b (List.mem_of_getElem? hb0)).2
  have HG := Lib.hid hgd
  have HS := Lib.hid hs
  clear hs hu hb0 hgd hz
  subst hA
  go_enter Try.func9, Try.ntmps9
  go_wp2_with fail
  refine bodyPost_ret (v := .tuple #[.agg #[.iface 32 (ptr (w.heap.size + 1 + 1)), .int .i32 (pos : Int)], .int .i64 ((pos : Int) + 1)]) (by simp [results, Try.results9, go_sem]) rfl ⟨_, _, pos + 1, rfl, by omega, by omega, ?_, ?_⟩
  · repeat (with_reducible first | exact Below.refl _ _ | refine Below.alloc ?_ (by first | (simp; done) | (simp <;> omega) | omega) _ | refine Below.setCell ?_ (by first | (simp; done) | (simp <;> omega) | omega) _)
  · rw [idp_one, HG.out]
    rw [if_pos hr]; exact vis_ident _ _ _ _ _ (by repeat (with_reducible first | exact Bk.new' _ _ _ _ (by simp) | refine Bk.alloc ?_ _ | refine Bk.set ?_ (by omega))) (by omega) (by simp)
set_option maxRecDepth 100000 in
set_option maxHeartbeats 4000000 in
theorem build_array (zs : List Int) (n pos c F : Nat) (A : Option Addr) (w : World) (hn : n ≤ 65536) (hz : ∀ z ∈ zs, 0 ≤ z ∧ z < 256) (hp : pos < n) (hs : Sl w w.heap.size A n (zs.map (Value.int .u8))) (hr : zs.getD pos 0 % 4 = 2) (hF : n - pos ≤ F + 1) (ih : Self zs n A c F) :
    Calls Try.prog 9 #[.slice A n c, .int .i64 (pos : Int)] w (Bd zs n pos w) := by
  obtain ⟨bb, off, u, hA, hbb, hu, hx⟩ := hs.at_ hp
  obtain ⟨b, hb0, rfl⟩ : ∃ b, zs[pos]? = some b ∧ Value.int .u8 b = u := by simpa using hu
  have hgd : zs.getD pos 0 = b := by rw [List.getD_eq_getElem?_getD, hb0]; rfl
  rw [hgd] at hr
  have b0 : 0 ≤ b := (hz b (List.mem_of_getElem? hb0)).1
  have b1 : b < 256 := (hz b (List.mem_of_getElem? hb0)).2
  have HG := Lib.hid hgd
  have HS := Lib.hid hs
  clear hs hu hb0 hgd hz
  subst hA
  have ID0 : Hid (idp zs pos (pos + 1) = []) := by rw [idp_one, HG.out, if_neg (by omega)]; rfl
  obtain ⟨a, ha⟩ : ∃ a : Nat, b / 4 % 4 = a := ⟨(b / 4 % 4).toNat, by omega⟩
  have ha3 : a ≤ 3 := by omega
  have AR := Lib.hid (fun w => arity_any b a w b0 b1 (by omega) ha)
  have IH := Lib.hid ih
  have HZ0 := Lib.hid ha
  have hF' := Lib.hid hF
  obtain ⟨i0, hi, hz0, hz1, hz2⟩ := info_three info_ab
  clear ih ha hF
  go_enter Try.func9, Try.ntmps9
  go_wp2_with fail
  clear hr
  go_loopw [8, 9, 10] (fun nx v cc wr => ∃ (m k : Nat) (its : List It), pos + 1 ≤ m ∧ m ≤ n ∧ k ≤ 3 ∧ nx = .int .i64 m ∧ cc = .int .i64 k ∧ Hid (Rd 58 5 cellsA zs w pos m k v its wr)) (fun nx _ _ _ => n - (intOf nx).toNat)
  case atStart =>
    refine ⟨pos + 1, 0, [], by omega, by omega, by omega, by go_num, rfl, World.ownsRow_nil _ _ _ _, fun x hx => absurd hx (List.not_mem_nil), fun x hx => absurd hx (List.not_mem_nil), by rw [idp_self]; rfl, ?_, ?_, ?_, rfl⟩
    · repeat (with_reducible first | exact Below.refl _ _ | refine Below.alloc ?_ (by first | (simp; done) | (simp <;> omega) | omega) _)
    · exact (Bk.new _ _ _).alloc _
    · exact Bk.new' _ _ _ _ (by simp)
  case round =>
    obtain ⟨m, k, its, hm1, hm2, hk3, rfl, rfl, R⟩ := hrel
    have szr := R.out.bl.size
    by_cases h1 : k < a ∧ m < n
    · obtain ⟨h1, h2⟩ := h1
      go_wp2_with (go_at_call 11; refine (AR.out _).mono ?_; rintro e w' ⟨rfl, rfl⟩)
      refine (IH.out m wr (by have := hF'.out; omega) h2 ((HS.out.below R.out.bl).more szr)).mono ?_
      rintro e w1 ⟨T, g, nx, rfl, hn1, hn2, hb1, hv⟩
      have B1 := Lib.hid hb1
      have sz1 := hb1.size
      clear hb1
      have own := ((own_below R.out.own B1.out).alloc (.cells #[.iface T (ptr g), .int .i32 (m : Int)] 42)).alloc (.cells #[.iface T (ptr g), .int .i32 (m : Int), .nilIface, .int .i32 0, .int .i32 (m : Int)] 58)
      go_wp2_with (at_builtin; refine wpList_append_own_at _ rfl _ _ 55 rfl w.heap.size 58 i0 (.agg #[.nilIface, .int .i32 0, .nilIface, .int .i32 0, .int .i32 0]) 5 56 Try.underlying55 hi hz0 hz1 hz2 rfl (by decide) _ _ _ rfl own ⟨w1.heap.size + 1, 0, none⟩ 1 1 (#[.iface T (ptr g), .int .i32 (m : Int), .nilIface, .int .i32 0, .int .i32 (m : Int)]).toList rfl rfl ?c1 ?c2 ?c3 ?c4 ?c5 ?_)
      case c2 => repeat (first | rfl | refine ⟨rfl, ?_⟩)
      case c3 => unfold maxLen; omega
      case c4 => omega
      case c5 => simp; omega
      intro v' w2 hown' hgrow _ hblk
      have szg := hgrow.size
      have GS := Lib.hid (grow_step (it := ⟨T, g, (m : Int), wr.heap.size, w1.heap.size, idp zs m nx⟩) R.out.hit R.out.ap (by have := R.out.lb.lt; omega) B1.out (((Below.refl _ _).alloc (Nat.le_refl _) _).alloc (by simp) _) hgrow (fun g hg => (R.out.own.lt g hg).2) (by simpa using hblk) rfl rfl hv.out)
      have RB := Lib.hid (Bk.grown (((R.out.rb.later B1.out).alloc _).alloc _) hgrow (own_ne own (((R.out.rb.later B1.out).alloc _).alloc _) (by decide)))
      have LB := Lib.hid (Bk.grown (((R.out.lb.later B1.out).alloc _).alloc _) hgrow (own_ne own (((R.out.lb.later B1.out).alloc _).alloc _) (by decide)))
      have BL := Lib.hid (((((R.out.bl.trans (B1.out.mono szr))).alloc (by have := R.out.bl.size; omega) _).alloc (by simp; omega) _).grown hgrow (by simp; omega) (fun k hk => (own.lt k hk).1))
      have OW := Lib.hid hown'
      clear hown' hgrow hblk own
      go_wp2_with fail
      go_roundw
      case rel =>
        refine ⟨nx, k + 1, its ++ [⟨T, g, (m : Int), wr.heap.size, w1.heap.size, idp zs m nx⟩], by omega, hn2, by omega, rfl, by go_num, ?_, GS.out.1, GS.out.2, ?_, BL.out, RB.out, LB.out, by simp [R.out.len]⟩
        · rw [List.flatMap_append, List.flatMap_singleton]; exact OW.out
        · unfold idsOf; rw [List.flatMap_append, List.flatMap_singleton]; show idsOf its ++ _ = _; rw [R.out.ids]; exact idp_app zs (pos + 1) m nx hm1 (by omega)
      case measure => simp [intOf]; omega
    · obtain ⟨va, vl, vc, rfl⟩ := row_form R.out.own
      have r0 : wr.cell? ⟨w.heap.size, 0, none⟩ = some .nilIface := R.out.rb.cell 0
      have r1 : wr.cell? ⟨w.heap.size, 1, none⟩ = some (.int .i32 0) := R.out.rb.cell 1
      have fr := R.out.rb.frozen
      have zr := R.out.rb.lt
      have l0 : wr.cell? ⟨w.heap.size + 1, 0, none⟩ = some (.int .i32 (pos : Int)) := R.out.lb.cell 0
      have zl := R.out.lb.lt
      by_cases h2 : k < a
      · have h3 : ¬ m < n := fun h => h1 ⟨h2, h⟩
        clear h1
        go_wp2_with (go_at_call 11; refine (AR.out _).mono ?_; rintro e w' ⟨rfl, rfl⟩)
        refine bodyPost_ret (v := .tuple #[.agg #[.iface 59 (ptr wr.heap.size), .int .i32 (pos : Int)], .int .i64 (m : Int)]) (by simp [results, Try.results9, go_sem, *]) rfl ⟨_, _, m, rfl, by omega, hm2, ?_, ?_⟩
        · repeat (with_reducible first | exact R.out.bl | refine Below.alloc ?_ (by first | (simp; done) | (simp <;> omega) | omega) _ | refine Below.setCell ?_ (by first | (simp; done) | (simp <;> omega) | omega) _)
        · have e1 : idp zs pos m = idsOf its := by rw [R.out.ids, ← idp_app zs pos (pos + 1) m (by omega) hm1, ID0.out]; rfl
          rw [e1]
          refine vis_array _ _ _ wr.heap.size _ _ its (by repeat (with_reducible first | exact Bk.new' _ _ _ _ (by simp) | refine Bk.alloc ?_ _ | refine Bk.set ?_ (by omega))) (by have := R.out.bl.size; omega) (by simp) ((row_of_own R.out.own R.out.len (Nat.le_refl _)).later (fun g cs h => ?_) (by simp)) (fun it hit => ?_) (by have := R.out.len; omega)
          · have hg : g ≠ w.heap.size := h.ne R.out.rb (by decide)
            repeat (with_reducible first | exact h | refine Bk.alloc ?_ _ | refine Bk.set ?_ hg)
          · obtain ⟨h5, h6, h7⟩ := R.out.hit it hit
            refine ⟨by omega, by simp; omega, h7.agree fun b hb1 hb2 => ?_⟩
            rw [Below.heap_alloc _ _ _ (by simp; omega), Below.heap_setCell _ _ _ _ (by show b ≠ w.heap.size; omega), Below.heap_setCell _ _ _ _ (by show b ≠ w.heap.size; omega)]
      · clear h1
        go_wp2_with (go_at_call 11; refine (AR.out _).mono ?_; rintro e w' ⟨rfl, rfl⟩)
        refine bodyPost_ret (v := .tuple #[.agg #[.iface 59 (ptr wr.heap.size), .int .i32 (pos : Int)], .int .i64 (m : Int)]) (by simp [results, Try.results9, go_sem, *]) rfl ⟨_, _, m, rfl, by omega, hm2, ?_, ?_⟩
        · repeat (with_reducible first | exact R.out.bl | refine Below.alloc ?_ (by first | (simp; done) | (simp <;> omega) | omega) _ | refine Below.setCell ?_ (by first | (simp; done) | (simp <;> omega) | omega) _)
        · have e1 : idp zs pos m = idsOf its := by rw [R.out.ids, ← idp_app zs pos (pos + 1) m (by omega) hm1, ID0.out]; rfl
          rw [e1]
          refine vis_array _ _ _ wr.heap.size _ _ its (by repeat (with_reducible first | exact Bk.new' _ _ _ _ (by simp) | refine Bk.alloc ?_ _ | refine Bk.set ?_ (by omega))) (by have := R.out.bl.size; omega) (by simp) ((row_of_own R.out.own R.out.len (Nat.le_refl _)).later (fun g cs h => ?_) (by simp)) (fun it hit => ?_) (by have := R.out.len; omega)
          · have hg : g ≠ w.heap.size := h.ne R.out.rb (by decide)
            repeat (with_reducible first | exact h | refine Bk.alloc ?_ _ | refine Bk.set ?_ hg)
          · obtain ⟨h5, h6, h7⟩ := R.out.hit it hit
            refine ⟨by omega, by simp; omega, h7.agree fun b hb1 hb2 => ?_⟩
            rw [Below.heap_alloc _ _ _ (by simp; omega), Below.heap_setCell _ _ _ _ (by show b ≠ w.heap.size; omega), Below.heap_setCell _ _ _ _ (by show b ≠ w.heap.size; omega)]
set_option maxRecDepth 100000 in
set_option maxHeartbeats 4000000 in
theorem build_object (zs : List Int) (n pos c F : Nat) (A : Option Addr) (w : World) (hn : n ≤ 65536) (hz : ∀ z ∈ zs, 0 ≤ z ∧ z < 256) (hp : pos < n) (hs : Sl w w.heap.size A n (zs.map (Value.int .u8))) (hr : zs.getD pos 0 % 4 = 3) (hF : n - pos ≤ F + 1) (ih : Self zs n A c F) :
    Calls Try.prog 9 #[.slice A n c, .int .i64 (pos : Int)] w (Bd zs n pos w) := by
  obtain ⟨bb, off, u, hA, hbb, hu, hx⟩ := hs.at_ hp
  obtain ⟨b, hb0, rfl⟩ : ∃ b, zs[pos]? = some b ∧ Value.int .u8 b = u := by simpa using hu
  have hgd : zs.getD pos 0 = b := by rw [List.getD_eq_getElem?_getD, hb0]; rfl
  rw [hgd] at hr
  have b0 : 0 ≤ b := (hz b (List.mem_of_getElem? hb0)).1
  have b1 : b < 256 := (hz b (List.mem_of_getElem? hb0)).2
  have HG := Lib.hid hgd
  have HS := Lib.hid hs
  clear hs hu hb0 hgd hz
  subst hA
  have ID0 : Hid (idp zs pos (pos + 1) = []) := by rw [idp_one, HG.out, if_neg (by omega)]; rfl
  obtain ⟨a, ha⟩ : ∃ a : Nat, b / 4 % 4 = a := ⟨(b / 4 % 4).toNat, by omega⟩
  have ha3 : a ≤ 3 := by omega
  have AR := Lib.hid (fun w => arity_any b a w b0 b1 (by omega) ha)
  have IH := Lib.hid ih
  have HZ0 := Lib.hid ha
  have hF' := Lib.hid hF
  obtain ⟨i0, hi, hz0, hz1, hz2⟩ := info_three info_pb
  clear ih ha hF
  go_enter Try.func9, Try.ntmps9
  go_wp2_with fail
  clear hr
  go_loopw [8, 13, 14] (fun nx v cc wr => ∃ (m k : Nat) (its : List It), pos + 1 ≤ m ∧ m ≤ n ∧ k ≤ 3 ∧ nx = .int .i64 m ∧ cc = .int .i64 k ∧ Hid (Rd 64 11 cellsO zs w pos m k v its wr)) (fun nx _ _ _ => n - (intOf nx).toNat)
  case atStart =>
    refine ⟨pos + 1, 0, [], by omega, by omega, by omega, by go_num, rfl, World.ownsRow_nil _ _ _ _, fun x hx => absurd hx (List.not_mem_nil), fun x hx => absurd hx (List.not_mem_nil), by rw [idp_self]; rfl, ?_, ?_, ?_, rfl⟩
    · repeat (with_reducible first | exact Below.refl _ _ | refine Below.alloc ?_ (by first | (simp; done) | (simp <;> omega) | omega) _)
    · exact (Bk.new _ _ _).alloc _
    · exact Bk.new' _ _ _ _ (by simp)
  case round =>
    obtain ⟨m, k, its, hm1, hm2, hk3, rfl, rfl, R⟩ := hrel
    have szr := R.out.bl.size
    by_cases h1 : k < a ∧ m < n
    · obtain ⟨h1, h2⟩ := h1
      go_wp2_with (go_at_call 11; refine (AR.out _).mono ?_; rintro e w' ⟨rfl, rfl⟩)
      refine (IH.out m wr (by have := hF'.out; omega) h2 ((HS.out.below R.out.bl).more szr)).mono ?_
      rintro e w1 ⟨T, g, nx, rfl, hn1, hn2, hb1, hv⟩
      have B1 := Lib.hid hb1
      have sz1 := hb1.size
      clear hb1
      have own := ((own_below R.out.own B1.out).alloc (.cells #[.iface T (ptr g), .int .i32 (m : Int)] 42)).alloc (.cells #[.nilIface, .int .i32 0, .iface T (ptr g), .int .i32 (m : Int), .nilIface, .int .i32 0, .int .i32 (m : Int), .int .i32 0, .bool false, .bool false, .bool false] 64)
      go_wp2_with (at_builtin; refine wpList_append_own_at _ rfl _ _ 62 rfl w.heap.size 64 i0 (.agg #[.nilIface, .int .i32 0, .nilIface, .int .i32 0, .nilIface, .int .i32 0, .int .i32 0, .int .i32 0, .bool false, .bool false, .bool false]) 11 88 Try.underlying62 hi hz0 hz1 hz2 rfl (by decide) _ _ _ rfl own ⟨w1.heap.size + 1, 0, none⟩ 1 1 (#[.nilIface, .int .i32 0, .iface T (ptr g), .int .i32 (m : Int), .nilIface, .int .i32 0, .int .i32 (m : Int), .int .i32 0, .bool false, .bool false, .bool false]).toList rfl rfl ?c1 ?c2 ?c3 ?c4 ?c5 ?_)
      case c2 => repeat (first | rfl | refine ⟨rfl, ?_⟩)
      case c3 => unfold maxLen; omega
      case c4 => omega
      case c5 => simp; omega
      intro v' w2 hown' hgrow _ hblk
      have szg := hgrow.size
      have GS := Lib.hid (grow_step (it := ⟨T, g, (m : Int), wr.heap.size, w1.heap.size, idp zs m nx⟩) R.out.hit R.out.ap (by have := R.out.lb.lt; omega) B1.out (((Below.refl _ _).alloc (Nat.le_refl _) _).alloc (by simp) _) hgrow (fun g hg => (R.out.own.lt g hg).2) (by simpa using hblk) rfl rfl hv.out)
      have RB := Lib.hid (Bk.grown (((R.out.rb.later B1.out).alloc _).alloc _) hgrow (own_ne own (((R.out.rb.later B1.out).alloc _).alloc _) (by decide)))
      have LB := Lib.hid (Bk.grown (((R.out.lb.later B1.out).alloc _).alloc _) hgrow (own_ne own (((R.out.lb.later B1.out).alloc _).alloc _) (by decide)))
      have BL := Lib.hid (((((R.out.bl.trans (B1.out.mono szr))).alloc (by have := R.out.bl.size; omega) _).alloc (by simp; omega) _).grown hgrow (by simp; omega) (fun k hk => (own.lt k hk).1))
      have OW := Lib.hid hown'
      clear hown' hgrow hblk own
      go_wp2_with fail
      go_roundw
      case rel =>
        refine ⟨nx, k + 1, its ++ [⟨T, g, (m : Int), wr.heap.size, w1.heap.size, idp zs m nx⟩], by omega, hn2, by omega, rfl, by go_num, ?_, GS.out.1, GS.out.2, ?_, BL.out, RB.out, LB.out, by simp [R.out.len]⟩
        · rw [List.flatMap_append, List.flatMap_singleton]; exact OW.out
        · unfold idsOf; rw [List.flatMap_append, List.flatMap_singleton]; show idsOf its ++ _ = _; rw [R.out.ids]; exact idp_app zs (pos + 1) m nx hm1 (by omega)
      case measure => simp [intOf]; omega
    · obtain ⟨va, vl, vc, rfl⟩ := row_form R.out.own
      have r0 : wr.cell? ⟨w.heap.size, 0, none⟩ = some .nilIface := R.out.rb.cell 0
      have r1 : wr.cell? ⟨w.heap.size, 1, none⟩ = some (.int .i32 0) := R.out.rb.cell 1
      have fr := R.out.rb.frozen
      have zr := R.out.rb.lt
      have l0 : wr.cell? ⟨w.heap.size + 1, 0, none⟩ = some (.int .i32 (pos : Int)) := R.out.lb.cell 0
      have zl := R.out.lb.lt
      by_cases h2 : k < a
      · have h3 : ¬ m < n := fun h => h1 ⟨h2, h⟩
        clear h1
        go_wp2_with (go_at_call 11; refine (AR.out _).mono ?_; rintro e w' ⟨rfl, rfl⟩)
        refine bodyPost_ret (v := .tuple #[.agg #[.iface 65 (ptr wr.heap.size), .int .i32 (pos : Int)], .int .i64 (m : Int)]) (by simp [results, Try.results9, go_sem, *]) rfl ⟨_, _, m, rfl, by omega, hm2, ?_, ?_⟩
        · repeat (with_reducible first | exact R.out.bl | refine Below.alloc ?_ (by first | (simp; done) | (simp <;> omega) | omega) _ | refine Below.setCell ?_ (by first | (simp; done) | (simp <;> omega) | omega) _)
        · have e1 : idp zs pos m = idsOf its := by rw [R.out.ids, ← idp_app zs pos (pos + 1) m (by omega) hm1, ID0.out]; rfl
          rw [e1]
          refine vis_object _ _ _ wr.heap.size _ _ its (by repeat (with_reducible first | exact Bk.new' _ _ _ _ (by simp) | refine Bk.alloc ?_ _ | refine Bk.set ?_ (by omega))) (by have := R.out.bl.size; omega) (by simp) ((row_of_own R.out.own R.out.len (Nat.le_refl _)).later (fun g cs h => ?_) (by simp)) (fun it hit => ?_) (by have := R.out.len; omega)
          · have hg : g ≠ w.heap.size := h.ne R.out.rb (by decide)
            repeat (with_reducible first | exact h | refine Bk.alloc ?_ _ | refine Bk.set ?_ hg)
          · obtain ⟨h5, h6, h7⟩ := R.out.hit it hit
            refine ⟨by omega, by simp; omega, h7.agree fun b hb1 hb2 => ?_⟩
            rw [Below.heap_alloc _ _ _ (by simp; omega), Below.heap_setCell _ _ _ _ (by show b ≠ w.heap.size; omega), Below.heap_setCell _ _ _ _ (by show b ≠ w.heap.size; omega)]
      · clear h1
        go_wp2_with (go_at_call 11; refine (AR.out _).mono ?_; rintro e w' ⟨rfl, rfl⟩)
        refine bodyPost_ret (v := .tuple #[.agg #[.iface 65 (ptr wr.heap.size), .int .i32 (pos : Int)], .int .i64 (m : Int)]) (by simp [results, Try.results9, go_sem, *]) rfl ⟨_, _, m, rfl, by omega, hm2, ?_, ?_⟩
        · repeat (with_reducible first | exact R.out.bl | refine Below.alloc ?_ (by first | (simp; done) | (simp <;> omega) | omega) _ | refine Below.setCell ?_ (by first | (simp; done) | (simp <;> omega) | omega) _)
        · have e1 : idp zs pos m = idsOf its := by rw [R.out.ids, ← idp_app zs pos (pos + 1) m (by omega) hm1, ID0.out]; rfl
          rw [e1]
          refine vis_object _ _ _ wr.heap.size _ _ its (by repeat (with_reducible first | exact Bk.new' _ _ _ _ (by simp) | refine Bk.alloc ?_ _ | refine Bk.set ?_ (by omega))) (by have := R.out.bl.size; omega) (by simp) ((row_of_own R.out.own R.out.len (Nat.le_refl _)).later (fun g cs h => ?_) (by simp)) (fun it hit => ?_) (by have := R.out.len; omega)
          · have hg : g ≠ w.heap.size := h.ne R.out.rb (by decide)
            repeat (with_reducible first | exact h | refine Bk.alloc ?_ _ | refine Bk.set ?_ hg)
          · obtain ⟨h5, h6, h7⟩ := R.out.hit it hit
            refine ⟨by omega, by simp; omega, h7.agree fun b hb1 hb2 => ?_⟩
            rw [Below.heap_alloc _ _ _ (by simp; omega), Below.heap_setCell _ _ _ _ (by show b ≠ w.heap.size; omega), Below.heap_setCell _ _ _ _ (by show b ≠ w.heap.size; omega)]
theorem self_any (zs : List Int) (n c : Nat) (A : Option Addr) (hn : n ≤ 65536) (hz : ∀ z ∈ zs, 0 ≤ z ∧ z < 256) : ∀ F, Self zs n A c F := by
  intro F
  induction F with
  | zero => intro pos w h1 h2; omega
  | succ F ih =>
    intro pos w h1 h2 hs
    have h : zs.getD pos 0 % 4 = 0 ∨ zs.getD pos 0 % 4 = 1 ∨ zs.getD pos 0 % 4 = 2 ∨ zs.getD pos 0 % 4 = 3 := by omega
    rcases h with h | h | h | h
    · exact build_missing zs n pos c A w hn hz h2 hs h
    · exact build_ident zs n pos c A w hn hz h2 hs h
    · exact build_array zs n pos c F A w hn hz h2 hs h h1 ih
    · exact build_object zs n pos c F A w hn hz h2 hs h h1 ih

end Go.Proofs.Ytbmmmgccmkompac
