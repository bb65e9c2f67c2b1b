/-
  ForEachIdentifierBinding on a node of each kind, by what it does on the children; no statement of its own.
-/
import Derived.Test.YtbmmmgccmkompacRows
import Derived.WalkKit
import Derived.ProofKit
import Derived.OpenShut
import Derived.Test.YtbmmmgccmkompacSlW
import Derived.Test.YtbmmmgccmkompacFeA
import Derived.WalkLawsBesides
import Derived.WalkSpells
import Derived.Below
import Derived.Lib.Hide
import Derived.Outline
import Derived.LoopTactic
namespace Go.Proofs.Ytbmmmgccmkompac
open Go.ChangeShapes Go.WideShapes Go.ChangeAt Go.RowKit

set_option linter.unusedVariables false

abbrev ptr (g : Nat) : Value := .pointer (some ⟨g, 0, none⟩)
/-- The callback, as the law hands it on. -/
abbrev clo (L R : Nat) : Value := .func (.func 8) #[] #[ptr L, ptr R]
def Agree (lo hi : Nat) (w w1 : World) : Prop := ∀ b, lo ≤ b → b < hi → w1.heap[b]? = w.heap[b]?
theorem Agree.refl (lo hi : Nat) (w : World) : Agree lo hi w w := fun _ _ _ => rfl
theorem Agree.trans {lo hi : Nat} {w w1 w2 : World} (h : Agree lo hi w w1) (h' : Agree lo hi w1 w2) : Agree lo hi w w2 := fun b h1 h2 => (h' b h1 h2).trans (h b h1 h2)
theorem Agree.sub {lo hi lo' hi' : Nat} {w w1 : World} (h : Agree lo hi w w1) (h1 : lo ≤ lo') (h2 : hi' ≤ hi) : Agree lo' hi' w w1 := fun b h3 h4 => h b (by omega) (by omega)
theorem agree_below {lo hi B : Nat} {w w1 : World} (h : Below B w w1) (hB : hi ≤ B) : Agree lo hi w w1 := fun b _ h2 => h.block b (by omega)
theorem Agree.bk {lo hi : Nat} {w w1 : World} (h : Agree lo hi w w1) {g : Nat} {t : TypeId} {cs : Array Value} (hb : Bk w g t cs) (h1 : lo ≤ g) (h2 : g < hi) : Bk w1 g t cs := (h g h1 h2).trans hb
theorem St.alloc {B L R : Nat} {cs : List Nat} {w : World} (h : St B L R cs w) (o : Obj) : St B L R cs (w.alloc o) := by
  obtain ⟨v, u, h1, h2, h3, h4, h5, h6, h7⟩ := h
  exact ⟨v, u, h1.alloc _, h2.alloc _, h3.alloc _, h4.alloc _, h5, h6, by simp; omega⟩
theorem St.base {B L R : Nat} {cs : List Nat} {w : World} (h : St B L R cs w) : B ≤ w.heap.size := by obtain ⟨v, u, h1, h2, h3, h4, h5, h6, h7⟩ := h; exact h7
/-- On this node the function collects ids, in whatever later world in which the blocks lo .. hi are as they were. -/
def Vis (lo hi : Nat) (w : World) (d : Value) (l : Int) (ids : List Nat) : Prop := ∀ B L R cs w1, hi ≤ B → Agree lo hi w w1 → St B L R cs w1 → cs.length + ids.length ≤ 65536 →
  Calls Try.prog 10 #[.agg #[d, .int .i32 l], clo L R] w1 (Col B L R (cs ++ ids) w1)
theorem Vis.agree {lo hi : Nat} {w w' : World} {d : Value} {l : Int} {ids : List Nat} (h : Vis lo hi w d l ids) (ha : Agree lo hi w w') : Vis lo hi w' d l ids := fun B L R cs w1 h1 h2 h3 h4 => h B L R cs w1 h1 (ha.trans h2) h3 h4
set_option maxRecDepth 100000 in
set_option maxHeartbeats 1000000 in
theorem vis_missing (lo hi : Nat) (w : World) (g : Nat) (l : Int) : Vis lo hi w (.iface 52 (ptr g)) l [] := by
  intro B L R cs w1 hB ha hs hl
  have HS := Lib.hid hs
  have hb := hs.base
  clear hs ha
  go_enter Try.func10, Try.ntmps10
  go_wp2_with fail
  go_end0
  exact ⟨rfl, by rw [List.append_nil]; exact HS.out.alloc _, (Below.refl _ _).alloc hb _⟩
set_option maxRecDepth 100000 in
set_option maxHeartbeats 1000000 in
theorem vis_ident (lo hi : Nat) (w : World) (q p : Nat) (hq : Bk w q 37 #[.int .u32 0, .int .u32 (p : Int)]) (h1 : lo ≤ q) (h2 : q < hi) : Vis lo hi w (.iface 32 (ptr q)) (p : Int) [p] := by
  intro B L R cs w1 hB ha hs hl
  have HQ := Lib.hid (ha.bk hq h1 h2)
  have HS := Lib.hid hs
  have hb := hs.base
  simp only [List.length_singleton] at hl
  have hl' : cs.length < 65536 := by omega
  clear hs ha hq hl
  go_enter Try.func10, Try.ntmps10
  go_wp2_with fail
  refine (call_back B L R p q cs _ (HS.out.alloc _) (HQ.out.alloc _) hl').mono ?_
  rintro e w2 ⟨rfl, hs2, hb2⟩
  have S2 := Lib.hid hs2
  have B2 := Lib.hid hb2
  clear hs2 hb2
  go_wp2_with fail
  go_end0
  exact ⟨rfl, S2.out, ((Below.refl _ _).alloc hb _).trans B2.out⟩
/-- A child: its node, its location, the blocks that it lies in, what is collected on it. -/
structure It where
  T : TypeId
  g : Nat
  l : Int
  lo : Nat
  hi : Nat
  ids : List Nat
def It.d (it : It) : Value := .iface it.T (ptr it.g)
def Its (w : World) (lo hi : Nat) (its : List It) : Prop := ∀ it ∈ its, lo ≤ it.lo ∧ it.hi ≤ hi ∧ Vis it.lo it.hi w it.d it.l it.ids
def idsOf (its : List It) : List Nat := its.flatMap It.ids
theorem flat_at (f : It → List Value) (s : Nat) (hf : ∀ it, (f it).length = s) : ∀ (its : List It) (i j : Nat) (it : It), its[i]? = some it → j < s → (its.flatMap f)[i * s + j]? = (f it)[j]?
  | [], i, j, it, h, _ => by simp at h
  | x :: xs, 0, j, it, h, hj => by
    simp at h; subst h
    rw [List.flatMap_cons, List.getElem?_append_left (by rw [hf]; omega), Nat.zero_mul, Nat.zero_add]
  | x :: xs, i + 1, j, it, h, hj => by
    rw [List.flatMap_cons, List.getElem?_append_right (by rw [hf, Nat.succ_mul]; omega), hf, show (i + 1) * s + j - s = i * s + j by rw [Nat.succ_mul]; omega]
    exact flat_at f s hf xs i j it (by simpa using h) hj
theorem flat_len (f : It → List Value) (s : Nat) (hf : ∀ it, (f it).length = s) (its : List It) : (its.flatMap f).length = its.length * s := by
  induction its with
  | nil => simp
  | cons x xs ih => rw [List.flatMap_cons, List.length_append, hf, ih, List.length_cons, Nat.succ_mul]; omega
/-- A row of children in memory: nil, or a block that begins with their cells. -/
def RowOf (w : World) (t : TypeId) (f : It → List Value) (v : Value) (its : List It) (lo hi : Nat) : Prop :=
  (its = [] ∧ ∃ a c, v = .slice a 0 c) ∨ ∃ (g cap : Nat) (cur : Array Value), v = .slice (some ⟨g, 0, none⟩) its.length cap ∧ lo ≤ g ∧ g < hi ∧ Bk w g t cur ∧ ∀ (j : Nat) (u : Value), (its.flatMap f)[j]? = some u → cur[j]? = some u
def cellsA (it : It) : List Value := [it.d, .int .i32 it.l, .nilIface, .int .i32 0, .int .i32 it.l]
def cellsO (it : It) : List Value := [.nilIface, .int .i32 0, it.d, .int .i32 it.l, .nilIface, .int .i32 0, .int .i32 it.l, .int .i32 0, .bool false, .bool false, .bool false]
def cellsD (it : It) : List Value := [it.d, .int .i32 it.l, .nilIface, .int .i32 0]
theorem ids_take (its : List It) (k : Nat) (it : It) (h : its[k]? = some it) : idsOf (its.take (k + 1)) = idsOf (its.take k) ++ it.ids := by
  unfold idsOf; rw [List.take_add_one, h]; simp
theorem ids_le (its : List It) (k : Nat) (it : It) (h : its[k]? = some it) : (idsOf (its.take k)).length + it.ids.length ≤ (idsOf its).length := by
  have h1 := ids_take its k it h
  have h2 : idsOf its = idsOf (its.take (k + 1)) ++ idsOf (its.drop (k + 1)) := by unfold idsOf; rw [← List.flatMap_append, List.take_append_drop]
  rw [h2, List.length_append, h1, List.length_append]; omega
theorem Its.at_ {w : World} {lo hi : Nat} {its : List It} (h : Its w lo hi its) {k : Nat} {it : It} (hk : its[k]? = some it) : lo ≤ it.lo ∧ it.hi ≤ hi ∧ Vis it.lo it.hi w it.d it.l it.ids := h it (List.mem_of_getElem? hk)
set_option maxRecDepth 100000 in
set_option maxHeartbeats 2000000 in
theorem vis_array (lo hi : Nat) (w : World) (q : Nat) (l : Int) (v : Value) (its : List It) (hq : Bk w q 61 #[v, .int .i32 0, .bool false, .bool false]) (hq1 : lo ≤ q) (hq2 : q < hi) (hrow : RowOf w 58 cellsA v its lo hi) (hits : Its w lo hi its) (hn : its.length ≤ 65536) : Vis lo hi w (.iface 59 (ptr q)) l (idsOf its) := by
  intro B L R cs w1 hB ha hs hl
  have hq' := ha.bk hq hq1 hq2
  have q0 : w1.cell? ⟨q, 0, none⟩ = some v := hq'.cell 0
  have zq := hq'.lt
  have hb := hs.base
  have HS := Lib.hid hs
  have HA := Lib.hid ha
  have HI := Lib.hid hits
  have HN := Lib.hid hn
  have HL := Lib.hid hl
  clear hs ha hits hq hq' hl
  rcases hrow with ⟨rfl, a, c, rfl⟩ | ⟨gr, cap, cur, rfl, hg1, hg2, hgb, hcur⟩
  · go_enter Try.func10, Try.ntmps10
    go_wp2_with fail
    refine wp_loop_rounds 1 ?_
    rw [rounds_succ]
    go_wp2_with fail
    go_end0
    exact ⟨rfl, by show St B L R (cs ++ []) _; rw [List.append_nil]; exact HS.out.alloc _, (Below.refl _ _).alloc hb _⟩
  · have HG := Lib.hid (HA.out.bk hgb hg1 hg2)
    have HCUR := Lib.hid hcur
    generalize hnn : its.length = n at *
    have HNN := Lib.hid hnn
    clear hnn hgb hcur
    have hn9 : n ≤ 65536 := hn
    go_enter Try.func10, Try.ntmps10
    go_wp2_with fail
    go_loopw [35] (fun v wr => ∃ k : Nat, k ≤ n ∧ v = .int .i64 k ∧ Hid (St B L R (cs ++ idsOf (its.take k)) wr ∧ Below B w1 wr)) (fun v _ => n - (intOf v).toNat)
    case atStart => exact ⟨0, by omega, rfl, by show St B L R (cs ++ []) _; rw [List.append_nil]; exact HS.out.alloc _, (Below.refl _ _).alloc hb _⟩
    case round =>
      obtain ⟨k, hk, rfl, H⟩ := hrel
      by_cases hlt : k < n
      · obtain ⟨it, hit⟩ : ∃ it, its[k]? = some it := ⟨_, List.getElem?_eq_getElem (by have := HNN.out; omega)⟩
        have gb := HG.out.below H.out.2 (by omega)
        have hcur := HCUR.out
        have zg := gb.lt
        have e0 : wr.cell? ⟨gr, k * 5, none⟩ = some (it.d) := (gb.cell _).trans (hcur _ _ ((flat_at cellsA 5 (fun _ => rfl) its k 0 it hit (by omega)).trans rfl))
        have e1 : wr.cell? ⟨gr, k * 5 + 1, none⟩ = some (.int .i32 it.l) := (gb.cell _).trans (hcur _ _ ((flat_at cellsA 5 (fun _ => rfl) its k 1 it hit (by omega)).trans rfl))
        have e2 : wr.cell? ⟨gr, k * 5 + 2, none⟩ = some (.nilIface) := (gb.cell _).trans (hcur _ _ ((flat_at cellsA 5 (fun _ => rfl) its k 2 it hit (by omega)).trans rfl))
        have e3 : wr.cell? ⟨gr, k * 5 + 3, none⟩ = some (.int .i32 0) := (gb.cell _).trans (hcur _ _ ((flat_at cellsA 5 (fun _ => rfl) its k 3 it hit (by omega)).trans rfl))
        have e4 : wr.cell? ⟨gr, k * 5 + 4, none⟩ = some (.int .i32 it.l) := (gb.cell _).trans (hcur _ _ ((flat_at cellsA 5 (fun _ => rfl) its k 4 it hit (by omega)).trans rfl))
        have IT := Lib.hid (HI.out.at_ hit)
        have HIT := Lib.hid hit
        obtain ⟨T, g, li, loi, hii, idsi⟩ := it
        simp only [It.d] at e0
        have hb2 := H.out.1.base
        clear gb hcur hit
        go_wp2_with fail
        refine (IT.out.2.2 B L R (cs ++ idsOf (its.take k)) _ (by have := IT.out.2.1; show hii ≤ B; have h9 : hii ≤ hi := this; omega) ?_ (H.out.1.alloc _) ?_).mono ?_
        · exact ((HA.out.sub IT.out.1 IT.out.2.1).trans (agree_below H.out.2 (by have h9 : hii ≤ hi := IT.out.2.1; show hii ≤ B; omega))).trans (agree_below ((Below.refl _ _).alloc hb2 _) (by have h9 : hii ≤ hi := IT.out.2.1; show hii ≤ B; omega))
        · have h8 : (idsOf (its.take k)).length + idsi.length ≤ (idsOf its).length := ids_le its k _ HIT.out
          have h9 := HL.out
          show (cs ++ idsOf (its.take k)).length + idsi.length ≤ 65536
          rw [List.length_append]; omega
        rintro e w2 ⟨rfl, hs2, hbl2⟩
        have S2 := Lib.hid hs2
        have B2 := Lib.hid hbl2
        clear hs2 hbl2 e0
        go_wp2_with fail
        go_roundw
        case rel => exact ⟨k + 1, by omega, by go_num, by rw [ids_take its k _ HIT.out, ← List.append_assoc]; exact S2.out, H.out.2.trans (((Below.refl _ _).alloc hb2 _).trans B2.out)⟩
        case measure => simp [intOf]; omega
      · go_wp2_with fail
        go_end0
        have hkn : k = its.length := by have := HNN.out; omega
        exact ⟨rfl, by have h9 := H.out.1; rw [hkn, List.take_length] at h9; exact h9, H.out.2⟩
set_option maxRecDepth 100000 in
set_option maxHeartbeats 2000000 in
theorem vis_object (lo hi : Nat) (w : World) (q : Nat) (l : Int) (v : Value) (its : List It) (hq : Bk w q 67 #[v, .int .i32 0, .bool false]) (hq1 : lo ≤ q) (hq2 : q < hi) (hrow : RowOf w 64 cellsO v its lo hi) (hits : Its w lo hi its) (hn : its.length ≤ 65536) : Vis lo hi w (.iface 65 (ptr q)) l (idsOf its) := by
  intro B L R cs w1 hB ha hs hl
  have hq' := ha.bk hq hq1 hq2
  have q0 : w1.cell? ⟨q, 0, none⟩ = some v := hq'.cell 0
  have zq := hq'.lt
  have hb := hs.base
  have HS := Lib.hid hs
  have HA := Lib.hid ha
  have HI := Lib.hid hits
  have HN := Lib.hid hn
  have HL := Lib.hid hl
  clear hs ha hits hq hq' hl
  rcases hrow with ⟨rfl, a, c, rfl⟩ | ⟨gr, cap, cur, rfl, hg1, hg2, hgb, hcur⟩
  · go_enter Try.func10, Try.ntmps10
    go_wp2_with fail
    refine wp_loop_rounds 1 ?_
    rw [rounds_succ]
    go_wp2_with fail
    go_end0
    exact ⟨rfl, by show St B L R (cs ++ []) _; rw [List.append_nil]; exact HS.out.alloc _, (Below.refl _ _).alloc hb _⟩
  · have HG := Lib.hid (HA.out.bk hgb hg1 hg2)
    have HCUR := Lib.hid hcur
    generalize hnn : its.length = n at *
    have HNN := Lib.hid hnn
    clear hnn hgb hcur
    have hn9 : n ≤ 65536 := hn
    go_enter Try.func10, Try.ntmps10
    go_wp2_with fail
    go_loopw [52] (fun v wr => ∃ k : Nat, k ≤ n ∧ v = .int .i64 k ∧ Hid (St B L R (cs ++ idsOf (its.take k)) wr ∧ Below B w1 wr)) (fun v _ => n - (intOf v).toNat)
    case atStart => exact ⟨0, by omega, rfl, by show St B L R (cs ++ []) _; rw [List.append_nil]; exact HS.out.alloc _, (Below.refl _ _).alloc hb _⟩
    case round =>
      obtain ⟨k, hk, rfl, H⟩ := hrel
      by_cases hlt : k < n
      · obtain ⟨it, hit⟩ : ∃ it, its[k]? = some it := ⟨_, List.getElem?_eq_getElem (by have := HNN.out; omega)⟩
        have gb := HG.out.below H.out.2 (by omega)
        have hcur := HCUR.out
        have zg := gb.lt
        have e0 : wr.cell? ⟨gr, k * 11, none⟩ = some (.nilIface) := (gb.cell _).trans (hcur _ _ ((flat_at cellsO 11 (fun _ => rfl) its k 0 it hit (by omega)).trans rfl))
        have e1 : wr.cell? ⟨gr, k * 11 + 1, none⟩ = some (.int .i32 0) := (gb.cell _).trans (hcur _ _ ((flat_at cellsO 11 (fun _ => rfl) its k 1 it hit (by omega)).trans rfl))
        have e2 : wr.cell? ⟨gr, k * 11 + 2, none⟩ = some (it.d) := (gb.cell _).trans (hcur _ _ ((flat_at cellsO 11 (fun _ => rfl) its k 2 it hit (by omega)).trans rfl))
        have e3 : wr.cell? ⟨gr, k * 11 + 3, none⟩ = some (.int .i32 it.l) := (gb.cell _).trans (hcur _ _ ((flat_at cellsO 11 (fun _ => rfl) its k 3 it hit (by omega)).trans rfl))
        have e4 : wr.cell? ⟨gr, k * 11 + 4, none⟩ = some (.nilIface) := (gb.cell _).trans (hcur _ _ ((flat_at cellsO 11 (fun _ => rfl) its k 4 it hit (by omega)).trans rfl))
        have e5 : wr.cell? ⟨gr, k * 11 + 5, none⟩ = some (.int .i32 0) := (gb.cell _).trans (hcur _ _ ((flat_at cellsO 11 (fun _ => rfl) its k 5 it hit (by omega)).trans rfl))
        have e6 : wr.cell? ⟨gr, k * 11 + 6, none⟩ = some (.int .i32 it.l) := (gb.cell _).trans (hcur _ _ ((flat_at cellsO 11 (fun _ => rfl) its k 6 it hit (by omega)).trans rfl))
        have e7 : wr.cell? ⟨gr, k * 11 + 7, none⟩ = some (.int .i32 0) := (gb.cell _).trans (hcur _ _ ((flat_at cellsO 11 (fun _ => rfl) its k 7 it hit (by omega)).trans rfl))
        have e8 : wr.cell? ⟨gr, k * 11 + 8, none⟩ = some (.bool false) := (gb.cell _).trans (hcur _ _ ((flat_at cellsO 11 (fun _ => rfl) its k 8 it hit (by omega)).trans rfl))
        have e9 : wr.cell? ⟨gr, k * 11 + 9, none⟩ = some (.bool false) := (gb.cell _).trans (hcur _ _ ((flat_at cellsO 11 (fun _ => rfl) its k 9 it hit (by omega)).trans rfl))
        have e10 : wr.cell? ⟨gr, k * 11 + 10, none⟩ = some (.bool false) := (gb.cell _).trans (hcur _ _ ((flat_at cellsO 11 (fun _ => rfl) its k 10 it hit (by omega)).trans rfl))
        have IT := Lib.hid (HI.out.at_ hit)
        have HIT := Lib.hid hit
        obtain ⟨T, g, li, loi, hii, idsi⟩ := it
        simp only [It.d] at e2
        have hb2 := H.out.1.base
        clear gb hcur hit
        go_wp2_with fail
        refine (IT.out.2.2 B L R (cs ++ idsOf (its.take k)) _ (by have := IT.out.2.1; show hii ≤ B; have h9 : hii ≤ hi := this; omega) ?_ (H.out.1.alloc _) ?_).mono ?_
        · exact ((HA.out.sub IT.out.1 IT.out.2.1).trans (agree_below H.out.2 (by have h9 : hii ≤ hi := IT.out.2.1; show hii ≤ B; omega))).trans (agree_below ((Below.refl _ _).alloc hb2 _) (by have h9 : hii ≤ hi := IT.out.2.1; show hii ≤ B; omega))
        · have h8 : (idsOf (its.take k)).length + idsi.length ≤ (idsOf its).length := ids_le its k _ HIT.out
          have h9 := HL.out
          show (cs ++ idsOf (its.take k)).length + idsi.length ≤ 65536
          rw [List.length_append]; omega
        rintro e w2 ⟨rfl, hs2, hbl2⟩
        have S2 := Lib.hid hs2
        have B2 := Lib.hid hbl2
        clear hs2 hbl2 e2
        go_wp2_with fail
        go_roundw
        case rel => exact ⟨k + 1, by omega, by go_num, by rw [ids_take its k _ HIT.out, ← List.append_assoc]; exact S2.out, H.out.2.trans (((Below.refl _ _).alloc hb2 _).trans B2.out)⟩
        case measure => simp [intOf]; omega
      · go_wp2_with fail
        go_end0
        have hkn : k = its.length := by have := HNN.out; omega
        exact ⟨rfl, by have h9 := H.out.1; rw [hkn, List.take_length] at h9; exact h9, H.out.2⟩

end Go.Proofs.Ytbmmmgccmkompac
