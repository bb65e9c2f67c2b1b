/-
  zzBuildDecls and ForEachIdentifierBindingInDecls; no statement of their own.
-/
import Derived.Test.YtbmmmgccmkompacRows
import Derived.WalkKit
import Derived.ProofKit
import Derived.OpenShut
import Derived.Test.YtbmmmgccmkompacSlW
import Derived.Test.YtbmmmgccmkompacFeA
import Derived.Test.YtbmmmgccmkompacFeB
import Derived.Test.YtbmmmgccmkompacFeC
import Derived.WalkLawsBesides
import Derived.WalkSpells
import Derived.Below
import Derived.Lib.Hide
import Derived.Outline
import Derived.LoopTactic
import Derived.OwnWalk
import Derived.Laws.OwnMore
import Derived.Maps.AppendAt
namespace Go.Proofs.Ytbmmmgccmkompac
open Go.ChangeShapes Go.WideShapes Go.ChangeAt Go.RowKit

set_option linter.unusedVariables false

theorem info_d : (Try.prog.info? 50).map (fun i => (i.zero, i.size, i.bytes)) = some (some (.agg #[.nilIface, .int .i32 0, .nilIface, .int .i32 0]), 4, 48) := by kernel_rfl
structure Dd (zs : List Int) (w : World) (m : Nat) (v : Value) (its : List It) (wr : World) : Prop where
  own : wr.ownsRow w.heap.size 50 4 v its.length (its.flatMap cellsD)
  hit : Its wr w.heap.size wr.heap.size its
  ap : Apart v its
  ids : idsOf its = idp zs 0 m
  bl : Below w.heap.size w wr
  len : its.length ≤ m
def Decls (zs : List Int) (n : Nat) (w : World) (e : Ending) (w' : World) : Prop := ∃ v its, e = .returned v ∧ RowOf w' 50 cellsD v its w.heap.size w'.heap.size ∧ Its w' w.heap.size w'.heap.size its ∧ idsOf its = idp zs 0 n ∧ its.length ≤ n ∧ Below w.heap.size w w'
set_option maxRecDepth 100000 in
set_option maxHeartbeats 2000000 in
theorem decls_any (zs : List Int) (n c : Nat) (A : Option Addr) (w : World) (hn : n ≤ 65536) (hz : ∀ z ∈ zs, 0 ≤ z ∧ z < 256) (hs : Sl w w.heap.size A n (zs.map (Value.int .u8))) :
    Calls Try.prog 6 #[.slice A n c] w (Decls zs n w) := by
  have IH := Lib.hid (self_any zs n c A hn hz n)
  have HS := Lib.hid hs
  obtain ⟨i0, hi, hz0, hz1, hz2⟩ := info_three info_d
  clear hs hz
  go_enter Try.func6, Try.ntmps6
  go_wp2_with fail
  go_loopw [3, 4] (fun v p wr => ∃ (m : Nat) (its : List It), m ≤ n ∧ p = .int .i64 m ∧ Hid (Dd zs w m v its wr)) (fun _ p _ => n - (intOf p).toNat)
  case atStart =>
    exact ⟨0, [], by omega, rfl, World.ownsRow_nil _ _ _ _, fun x hx => absurd hx (List.not_mem_nil), fun x hx => absurd hx (List.not_mem_nil), by rw [idp_self]; rfl, Below.refl _ _, by simp⟩
  case round =>
    obtain ⟨m, its, hm, rfl, R⟩ := hrel
    have szr := R.out.bl.size
    by_cases h2 : m < n
    · go_wp2_with fail
      refine (IH.out m wr (by omega) h2 ((HS.out.below R.out.bl).more szr)).mono ?_
      rintro e w1 ⟨T, g, nx, rfl, hn1, hn2, hb1, hv⟩
      have B1 := Lib.hid hb1
      have sz1 := hb1.size
      have hlen := R.out.len
      clear hb1
      have own := ((own_below R.out.own B1.out).alloc (.cells #[.iface T (ptr g), .int .i32 (m : Int)] 42)).alloc (.cells #[.iface T (ptr g), .int .i32 (m : Int), .nilIface, .int .i32 0] 50)
      go_wp2_with (at_builtin; refine wpList_append_own_at _ rfl _ _ 25 rfl w.heap.size 50 i0 (.agg #[.nilIface, .int .i32 0, .nilIface, .int .i32 0]) 4 48 Try.underlying25 hi hz0 hz1 hz2 rfl (by decide) _ _ _ rfl own ⟨w1.heap.size + 1, 0, none⟩ 1 1 (#[.iface T (ptr g), .int .i32 (m : Int), .nilIface, .int .i32 0]).toList rfl rfl ?c1 ?c2 ?c3 ?c4 ?c5 ?_)
      case c2 => repeat (first | rfl | refine ⟨rfl, ?_⟩)
      case c3 => unfold maxLen; omega
      case c4 => omega
      case c5 => simp; omega
      intro v' w2 hown' hgrow _ hblk
      have szg := hgrow.size
      have GS := Lib.hid (grow_step (it := ⟨T, g, (m : Int), wr.heap.size, w1.heap.size, idp zs m nx⟩) R.out.hit R.out.ap szr B1.out (((Below.refl _ _).alloc (Nat.le_refl _) _).alloc (by simp) _) hgrow (fun g hg => (R.out.own.lt g hg).2) (by simpa using hblk) rfl rfl hv.out)
      have BL := Lib.hid (((((R.out.bl.trans (B1.out.mono szr))).alloc (by have := R.out.bl.size; omega) _).alloc (by simp; omega) _).grown hgrow (by simp; omega) (fun k hk => (own.lt k hk).1))
      have OW := Lib.hid hown'
      clear hown' hgrow hblk own
      go_wp2_with fail
      go_roundw
      case rel =>
        refine ⟨nx, its ++ [⟨T, g, (m : Int), wr.heap.size, w1.heap.size, idp zs m nx⟩], hn2, rfl, ?_, GS.out.1, GS.out.2, ?_, BL.out, by simp; omega⟩
        · rw [List.flatMap_append, List.flatMap_singleton, List.length_append, List.length_singleton]; exact OW.out
        · unfold idsOf; rw [List.flatMap_append, List.flatMap_singleton]; show idsOf its ++ _ = _; rw [R.out.ids]; exact idp_app zs 0 m nx (by omega) (by omega)
      case measure => simp [intOf]; omega
    · obtain ⟨va, vl, vc, rfl⟩ := row_form R.out.own
      have hmn : m = n := by omega
      have HMN := Lib.hid hmn
      clear hmn
      go_wp2_with fail
      go_ret
      exact ⟨_, its, rfl, row_of_own R.out.own rfl (Nat.le_refl _), R.out.hit, by rw [R.out.ids, HMN.out], by have := R.out.len; have := HMN.out; omega, R.out.bl⟩
set_option maxRecDepth 100000 in
set_option maxHeartbeats 2000000 in
theorem visit_decls (lo hi : Nat) (w : World) (v : Value) (its : List It) (hrow : RowOf w 50 cellsD v its lo hi) (hits : Its w lo hi its) (hn : its.length ≤ 65536)
    (B L R : Nat) (cs : List Nat) (w1 : World) (hB : hi ≤ B) (ha : Agree lo hi w w1) (hs : St B L R cs w1) (hl : cs.length + (idsOf its).length ≤ 65536) :
    Calls Try.prog 7 #[v, clo L R] w1 (Col B L R (cs ++ idsOf its) w1) := by
  have hb := hs.base
  have HS := Lib.hid hs
  have HA := Lib.hid ha
  have HI := Lib.hid hits
  have HN := Lib.hid hn
  have HL := Lib.hid hl
  clear hs ha hits hl
  rcases hrow with ⟨rfl, a, c, rfl⟩ | ⟨gr, cap, cur, rfl, hg1, hg2, hgb, hcur⟩
  · go_enter Try.func7, Try.ntmps7
    go_wp2_with fail
    refine wp_loop_rounds 1 ?_
    rw [rounds_succ]
    go_wp2_with fail
    go_end0
    exact ⟨rfl, by show St B L R (cs ++ []) _; rw [List.append_nil]; exact HS.out, Below.refl _ _⟩
  · have HG := Lib.hid (HA.out.bk hgb hg1 hg2)
    have HCUR := Lib.hid hcur
    generalize hnn : its.length = n at *
    have HNN := Lib.hid hnn
    clear hnn hgb hcur
    have hn9 : n ≤ 65536 := hn
    go_enter Try.func7, Try.ntmps7
    go_wp2_with fail
    go_loopw [8] (fun v wr => ∃ k : Nat, k ≤ n ∧ v = .int .i64 k ∧ Hid (St B L R (cs ++ idsOf (its.take k)) wr ∧ Below B w1 wr)) (fun v _ => n - (intOf v).toNat)
    case atStart => exact ⟨0, by omega, rfl, by show St B L R (cs ++ []) _; rw [List.append_nil]; exact HS.out, Below.refl _ _⟩
    case round =>
      obtain ⟨k, hk, rfl, H⟩ := hrel
      by_cases hlt : k < n
      · obtain ⟨it, hit⟩ : ∃ it, its[k]? = some it := ⟨_, List.getElem?_eq_getElem (by have := HNN.out; omega)⟩
        have gb := HG.out.below H.out.2 (by omega)
        have hcur := HCUR.out
        have zg := gb.lt
        have e0 : wr.cell? ⟨gr, k * 4, none⟩ = some (it.d) := (gb.cell _).trans (hcur _ _ ((flat_at cellsD 4 (fun _ => rfl) its k 0 it hit (by omega)).trans rfl))
        have e1 : wr.cell? ⟨gr, k * 4 + 1, none⟩ = some (.int .i32 it.l) := (gb.cell _).trans (hcur _ _ ((flat_at cellsD 4 (fun _ => rfl) its k 1 it hit (by omega)).trans rfl))
        have e2 : wr.cell? ⟨gr, k * 4 + 2, none⟩ = some (.nilIface) := (gb.cell _).trans (hcur _ _ ((flat_at cellsD 4 (fun _ => rfl) its k 2 it hit (by omega)).trans rfl))
        have e3 : wr.cell? ⟨gr, k * 4 + 3, none⟩ = some (.int .i32 0) := (gb.cell _).trans (hcur _ _ ((flat_at cellsD 4 (fun _ => rfl) its k 3 it hit (by omega)).trans rfl))
        have IT := Lib.hid (HI.out.at_ hit)
        have HIT := Lib.hid hit
        obtain ⟨T, g, li, loi, hii, idsi⟩ := it
        simp only [It.d] at e0
        have hb2 := H.out.1.base
        clear gb hcur hit
        go_wp2_with fail
        refine (IT.out.2.2 B L R (cs ++ idsOf (its.take k)) _ (by have := IT.out.2.1; show hii ≤ B; have h9 : hii ≤ hi := this; omega) ?_ (H.out.1.alloc _) ?_).mono ?_
        · exact ((HA.out.sub IT.out.1 IT.out.2.1).trans (agree_below H.out.2 (by have h9 : hii ≤ hi := IT.out.2.1; show hii ≤ B; omega))).trans (agree_below ((Below.refl _ _).alloc hb2 _) (by have h9 : hii ≤ hi := IT.out.2.1; show hii ≤ B; omega))
        · have h8 : (idsOf (its.take k)).length + idsi.length ≤ (idsOf its).length := ids_le its k _ HIT.out
          have h9 := HL.out
          show (cs ++ idsOf (its.take k)).length + idsi.length ≤ 65536
          rw [List.length_append]; omega
        rintro e w2 ⟨rfl, hs2, hbl2⟩
        have S2 := Lib.hid hs2
        have B2 := Lib.hid hbl2
        clear hs2 hbl2 e0
        go_wp2_with fail
        go_roundw
        case rel => exact ⟨k + 1, by omega, by go_num, by rw [ids_take its k _ HIT.out, ← List.append_assoc]; exact S2.out, H.out.2.trans (((Below.refl _ _).alloc hb2 _).trans B2.out)⟩
        case measure => simp [intOf]; omega
      · go_wp2_with fail
        go_end0
        have hkn : k = its.length := by have := HNN.out; omega
        exact ⟨rfl, by have h9 := H.out.1; rw [hkn, List.take_length] at h9; exact h9, H.out.2⟩

end Go.Proofs.Ytbmmmgccmkompac
