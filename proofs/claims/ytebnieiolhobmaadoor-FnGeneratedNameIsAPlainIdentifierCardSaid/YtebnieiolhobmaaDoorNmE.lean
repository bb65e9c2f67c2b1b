/-
  js_ast.EnsureValidIdentifier: a plain name out of the text's own letters; no statement of its own.
-/
import Derived.Test.YtebnieiolhobmaaDoorRows
import Derived.WalkKit
import Derived.ProofKit
import Derived.OpenShut
import Derived.Test.YtebnieiolhobmaaDoorNmA
import Derived.Test.YtebnieiolhobmaaDoorNmS
import Derived.Test.YtebnieiolhobmaaDoorNmB
import Derived.Test.YtebnieiolhobmaaDoorNmC
import Derived.Test.YtebnieiolhobmaaDoorNmD
import Derived.WalkLawsBesides
import Derived.WalkSpells
import Derived.Below
import Derived.Lib.Hide
import Derived.Outline
import Derived.OwnWalk
import Derived.Laws.OwnMore
import Derived.Maps.AppendAt
import Derived.LoopTactic
import Derived.RegionTactic
import Derived.WalkMore
import Derived.Deep.Cut
import Derived.Laws.RangeAny
import Derived.Laws.IdiomStrings
import Derived.Lib.OthersKept
import Derived.Lib.RuneCount
import Derived.Lib.TrimU
import Derived.Deep.QuietTactic
import Derived.BigQuiet
namespace Go.Proofs.YtebnieiolhobmaaDoor
open Go.ChangeShapes Go.WideShapes Go.ChangeAt Go.RowKit
open Go.Shelf Go.Lib
set_option linter.unusedVariables false

theorem info_b : (Tryd.prog.info? 5).map (fun i => (i.zero, i.size, i.bytes)) = some (some (.int .u8 0), 1, 1) := by kernel_rfl
def bcells (bs : List Nat) : List Value := bs.map fun x : Nat => Value.int .u8 (x : Int)
theorem bcells_app (xs ys : List Nat) : bcells (xs ++ ys) = bcells xs ++ bcells ys := by unfold bcells; rw [List.map_append]
theorem own_iter {w : World} {B n size K pos : Nat} {e : TypeId} {v : Value} {xs : List Value} {s : ByteArray} (h : w.ownsRow B e size v n xs) (hk : w.heap[K]? = some (.stringIter s pos)) (pos' : Nat) : (w.iterAt K s pos').ownsRow B e size v n xs := by
  refine ⟨h.1, ?_⟩
  rcases h.2 with hn | ⟨g, cap, cur, hv, hbg, hg, rest⟩
  · exact .inl hn
  · have hkg : g ≠ K := by
      intro e1
      rw [e1, hk] at hg
      cases hg
    exact .inr ⟨g, cap, cur, hv, hbg, (iterAt_other w K g s pos' hkg).trans hg, rest⟩
theorem iter_grown {w w' : World} {B n size K pos : Nat} {e : TypeId} {v : Value} {xs : List Value} {s : ByteArray} (h : w.ownsRow B e size v n xs) (hk : w.heap[K]? = some (.stringIter s pos)) (hg : w.grownBy w' v.ownBlock) : w'.heap[K]? = some (.stringIter s pos) := by
  have hlt : K < w.heap.size := (Array.getElem?_eq_some_iff.1 hk).1
  refine (hg.block K hlt ?_).trans hk
  rcases h.2 with ⟨rfl, _⟩ | ⟨g, cap, cur, rfl, _, hgg, _⟩
  · simp [Value.ownBlock]
  · intro hh
    simp [Value.ownBlock] at hh
    subst hh
    rw [hk] at hgg; cases hgg
theorem iter_alloc {w : World} {K pos : Nat} {s : ByteArray} (hk : w.heap[K]? = some (.stringIter s pos)) (o : Obj) : (w.alloc o).heap[K]? = some (.stringIter s pos) := by
  have hlt : K < w.heap.size := (Array.getElem?_eq_some_iff.1 hk).1
  rw [Below.heap_alloc _ _ _ hlt]; exact hk
theorem own_form {w : World} {B n : Nat} {e : TypeId} {v : Value} {xs : List Value} {size : Nat} (h : w.ownsRow B e size v n xs) (hn : 0 < n) : ∃ g cap, v = .slice (some ⟨g, 0, none⟩) n cap := by
  rcases h.2 with ⟨_, h0⟩ | ⟨g', cap, cur, h1, _⟩
  · omega
  · exact ⟨g', cap, h1⟩
theorem take_up (l : List Nat) (k : Nat) {x : Nat} (h : l[k]? = some x) : l.take (k + 1) = l.take k ++ [x] := by
  rw [List.take_add_one, h]; rfl
theorem nm_on {l bs : List Nat} {pos : Nat} (h : Nm (l.take pos) bs) (d : Nat) : Nm (l.take (pos + d)) bs := by
  rw [List.take_add]; exact h.more _
theorem app_one {l bs : List Nat} {pos x : Nat} (h : Nm (l.take pos) bs) (hx : l[pos]? = some x) (hc : isLet x ∨ (0 < bs.length ∧ isDig x)) : Nm (l.take (pos + 1)) (bs ++ [x]) := by
  rw [take_up l pos hx]; exact h.push hc
theorem app_gap {l bs : List Nat} {pos x : Nat} (h : Nm (l.take pos) bs) (h0 : 0 < bs.length) (hx : l[pos]? = some x) (hc : isLet x ∨ (0 < bs.length ∧ isDig x)) : Nm (l.take (pos + 1)) (bs ++ [95] ++ [x]) := by
  rw [take_up l pos hx]; exact h.gap h0 (by rcases hc with h | h; exact .inl h; exact .inr h.2)
theorem u8_small (x : Nat) (h : x < 128) : IntKind.u8.wrap (x : Int) = (x : Int) := by
  unfold IntKind.wrap; simp [IntKind.bits, IntKind.signed]; omega
theorem info3 {o : Option TypeInfo} {z : Value} {a b : Nat} (h : o.map (fun i => (i.zero, i.size, i.bytes)) = some (some z, a, b)) : ∃ i, o = some i ∧ i.zero = some z ∧ i.size = a ∧ i.bytes = b := by
  cases o with
  | none => cases h
  | some i => simp at h; exact ⟨i, rfl, h.1, h.2.1, h.2.2⟩
theorem map_id (bs : List Nat) (h : ∀ x ∈ bs, x < 256) : bs.map (UInt8.toNat ∘ UInt8.ofNat) = bs := by
  induction bs with
  | nil => rfl
  | cons x l ih =>
    rw [List.map_cons, ih fun y hy => h y (List.mem_cons_of_mem _ hy)]
    have hx := h x (List.mem_cons_self ..)
    have e : (UInt8.toNat ∘ UInt8.ofNat) x = x := by simp; omega
    rw [e]
theorem back (g c : Nat) (bs : List Nat) (w : World) (B : Nat) (h : w.ownsRow B 5 1 (.slice (some ⟨g, 0, none⟩) bs.length c) bs.length (bcells bs)) (h256 : ∀ x ∈ bs, x < 256) :
    (convert 29 9 (.slice (some ⟨g, 0, none⟩) bs.length c)).run Tryd.prog w = .ok (.string ⟨(bs.map UInt8.ofNat).toArray⟩) w := by
  have hl : (bs.map UInt8.ofNat).length = bs.length := by simp
  have := run_convert_bytes_back (P := Tryd.prog) w 29 9 5 ⟨g, 0, none⟩ c (bs.map UInt8.ofNat) Tryd.underlying29 Tryd.underlying5 Tryd.underlying9 (fun j hj => by
    have hj2 : j < bs.length := by rw [← hl]; exact hj
    have e1 : (⟨g, 0, none⟩ : Addr).add j = ⟨g, j, none⟩ := by simp [Addr.add]; exact fun h => h.symm
    have hb := h256 bs[j] (List.getElem_mem hj2)
    have hca := h.cellAt j (by omega)
    rw [e1, hca]
    have e2 : (bcells bs)[j]? = some (.int .u8 (bs[j] : Int)) := by unfold bcells; rw [List.getElem?_map, List.getElem?_eq_getElem hj2]; rfl
    rw [e2, List.getElem_map]
    have e3 : (UInt8.ofNat bs[j]).toNat = bs[j] := by simp; omega
    rw [e3])
  rw [hl] at this
  exact this
/-- What the name is good for. -/
def Good (s n : ByteArray) : Prop := n = ⟨#[95]⟩ ∨ (0 < n.size ∧ Nm (bytesN s) (bytesN n))
def Named (s : ByteArray) (w : World) (e : Ending) (w' : World) : Prop := ∃ n : ByteArray, e = .returned (.string n) ∧ Good s n ∧ Below w.heap.size w w'
/-- What holds at the loop's head. -/
structure Ev (s : ByteArray) (w wr : World) (K : Nat) (a : Option Addr) (c pos : Nat) (bs : List Nat) (gap : Bool) : Prop where
  it : wr.heap[K]? = some (.stringIter s pos)
  own : wr.ownsRow w.heap.size 5 1 (.slice a bs.length c) bs.length (bcells bs)
  nm : Nm ((bytesN s).take pos) bs
  gap : gap = true → 0 < bs.length
  bl : Below w.heap.size w wr
  len : bs.length ≤ 2 * pos
set_option maxRecDepth 100000 in
set_option maxHeartbeats 4000000 in
theorem ensure (s : ByteArray) (w : World) (hs : s.size ≤ 1048576) : Calls Tryd.prog 9 #[.string s] w (Named s w) := by
  have HS := Lib.hid hs
  clear hs
  go_enter Tryd.func9, Tryd.ntmps9
  go_wp2_with fail
  obtain ⟨w2, hw2⟩ : ∃ w2, w2 = (w.alloc (.cells #[] 5)).iter s 0 := ⟨_, rfl⟩
  have z1 : (w.alloc (.cells #[] 5)).heap.size = w.heap.size + 1 := by simp
  have E0 : Hid (Ev s w w2 (w.heap.size + 1) (some ⟨w.heap.size, 0, none⟩) 0 0 [] false) := by
    rw [hw2]
    refine Lib.hid ⟨?_, ?_, Nm.nil, (fun h => by cases h), ?_, Nat.le_refl _⟩
    · rw [← z1]; exact World.iter_heap _ _ _
    · refine ⟨rfl, .inr ⟨w.heap.size, 0, #[], rfl, Nat.le_refl _, ?_, Nat.le_refl _, Nat.zero_le _, rfl, rfl⟩⟩
      have h1 : ((w.alloc (.cells #[] 5)).iter s 0).heap[w.heap.size]? = (w.alloc (.cells #[] 5)).heap[w.heap.size]? := Below.heap_alloc _ _ _ (by simp)
      rw [h1]; show (w.heap.push _)[_]? = _; simp
    · exact ((Below.refl _ _).alloc (Nat.le_refl _) _).alloc (by simp) _
  rw [← hw2]
  clear hw2 z1
  go_loopw [3, 4] (fun o g wr => ∃ (a : Option Addr) (c pos : Nat) (bs : List Nat) (gap : Bool), o = .slice a bs.length c ∧ g = .bool gap ∧ Hid (Ev s w wr (w.heap.size + 1) a c pos bs gap)) (fun _ _ wr => s.size - wr.iterPos (w.heap.size + 1))
  case atStart => exact ⟨_, _, _, [], _, rfl, rfl, E0⟩
  case round =>
    obtain ⟨a, c, pos, bs, gap, rfl, rfl, H⟩ := hrel
    clear E0
    by_cases hp : pos < s.size
    · obtain ⟨x, hx⟩ : ∃ x, x = (Utf8.decode s pos).1 := ⟨_, rfl⟩
      obtain ⟨d, hd⟩ : ∃ d, d = (Utf8.decode s pos).2 := ⟨_, rfl⟩
      have hnx : ∀ ty, (Instr.next (.pointer (some ⟨w.heap.size + 1, 0, none⟩)) true ty).run Tryd.prog wr = .ok (.tuple #[.bool true, .int .i64 pos, .int .i32 (x : Int)]) (wr.iterAt (w.heap.size + 1) s (pos + d)) := fun ty => by rw [hx, hd]; exact run_next_any_at wr _ s pos ty H.out.it hp
      have HD := Lib.hid (show 1 ≤ d by rw [hd]; exact decode_width_pos s pos hp)
      have HX := Lib.hid (show x < 128 → d = 1 ∧ (bytesN s)[pos]? = some x by
        intro h
        by_cases ha : (s[pos]'hp).toNat < 128
        · rw [decode_ascii s pos hp ha] at hx hd
          exact ⟨hd, by rw [bytesN_get s pos hp, hx]⟩
        · have := (decode_high s pos hp (by omega)).1
          omega)
      have xr : x ≤ 1114111 := by rw [hx]; exact rune_le s pos
      have HP := Lib.hid hp
      clear hx hd hp
      go_upto_region 6 with fail
      obtain ⟨w5, hw5⟩ : ∃ w5, w5 = wr.iterAt (w.heap.size + 1) s (pos + d) := ⟨_, rfl⟩
      rw [← hw5]
      have I5 : Hid (w5.heap[w.heap.size + 1]? = some (.stringIter s (pos + d))) := by rw [hw5]; exact Lib.hid (iterAt_heap _ _ _ pos _ H.out.it)
      have O5 : Hid (w5.ownsRow w.heap.size 5 1 (.slice a bs.length c) bs.length (bcells bs)) := by rw [hw5]; exact Lib.hid (own_iter H.out.own H.out.it _)
      have B5 : Hid (Below w.heap.size w w5) := by rw [hw5]; exact Lib.hid (below_iterAt H.out.bl (by omega) s _)
      have P4 : Hid (wr.iterPos (w.heap.size + 1) = pos) := Lib.hid (by simp [World.iterPos, H.out.it])
      clear hw5 hnx
      go_cut [39] from 10 to 51 (fun v wx => ∃ b : Bool, v = .bool b ∧ (b = true → isLet x ∨ (0 < bs.length ∧ isDig x)) ∧ wx = w5)
      case first => as_aux_lemma =>
        go_wp2_with fail
        all_goals
          go_meet
          case rel => exact ⟨_, rfl, (fun h => by unfold isLet isDig; first | omega | (simp at h; done) | (simp at h; omega)), rfl⟩
      as_aux_lemma =>
        obtain ⟨b, rfl, hb, rfl⟩ := hcut
        obtain ⟨w5, rfl⟩ : ∃ z : World, z = wc := ⟨_, rfl⟩
        have bl0 := H.out.len
        have hln : bs.length ≤ 2097152 := by have := HS.out; have := HP.out; omega
        have b5 : w.heap.size ≤ w5.heap.size := B5.out.size
        cases b
        · by_cases hbl : 0 < bs.length
          · go_wp2_with fail
            go_roundw
            case rel => exact ⟨a, c, pos + d, bs, true, rfl, rfl, I5.out, O5.out, nm_on H.out.nm d, fun _ => hbl, B5.out, by omega⟩
            case measure =>
              have hm := HD.out
              have hq := HP.out
              have e1 : w5.iterPos (w.heap.size + 1) = pos + d := by simp [World.iterPos, I5.out]
              rw [e1, P4.out]
              omega
          · go_wp2_with fail
            go_roundw
            case rel => exact ⟨a, c, pos + d, bs, gap, rfl, rfl, I5.out, O5.out, nm_on H.out.nm d, H.out.gap, B5.out, by omega⟩
            case measure =>
              have hm := HD.out
              have hq := HP.out
              have e1 : w5.iterPos (w.heap.size + 1) = pos + d := by simp [World.iterPos, I5.out]
              rw [e1, P4.out]
              omega
        · have hc := hb rfl
          have hx8 : x < 128 := by unfold isLet isDig at hc; omega
          have hwx : IntKind.u8.wrap (x : Int) = (x : Int) := u8_small x hx8
          have hwx2 : (x : Int) % 256 = (x : Int) := by omega
          have HC := Lib.hid hc
          have HX2 := Lib.hid (HX.out hx8)
          obtain ⟨i0, hi0, hz0, hz1, hz2⟩ := info3 info_b
          clear hb hc
          cases gap
          · have own := O5.out.alloc (.cells #[.int .u8 (x : Int)] 5)
            go_wp2_with (at_builtin; refine wpList_append_own_at _ rfl _ _ 29 rfl w.heap.size 5 i0 (.int .u8 0) 1 1 Tryd.underlying29 hi0 hz0 hz1 hz2 rfl (by decide) _ _ _ rfl own ⟨w5.heap.size, 0, none⟩ 1 1 [.int .u8 (x : Int)] rfl rfl ?sa1 ?sa2 ?sa3 ?sa4 ?sa5 ?_)
            case sa1 => intro j u hj; cases j with | zero => (simp at hj; subst hj; simp [Addr.add]) | succ j => simp at hj
            case sa2 => intro u hu; simp at hu; subst hu; rfl
            case sa3 => unfold maxLen; omega
            case sa4 => omega
            case sa5 => simp; omega
            intro v6 w6 hown6 hgrow6 _ _
            have bl6 : Below w.heap.size w w6 := (B5.out.alloc b5 _).grown hgrow6 (by simp; omega) (fun k hk => (own.lt k hk).1)
            have I6 := Lib.hid (iter_grown own (iter_alloc I5.out _) hgrow6)
            obtain ⟨g6, k6, rfl⟩ := own_form hown6 (by omega)
            have O6 := Lib.hid hown6
            have BL6 := Lib.hid bl6
            have AP := Lib.hid (app_one H.out.nm HX2.out.2 HC.out)
            clear hown6 hgrow6 bl6 own
            go_wp2_with fail
            go_roundw
            case rel => exact ⟨some ⟨g6, 0, none⟩, k6, pos + 1, bs ++ [x], false, by rw [List.length_append]; rfl, rfl, by have h9 := I6.out; rw [HX2.out.1] at h9; exact h9, by rw [List.length_append, bcells_app]; exact O6.out, AP.out, (fun h => by cases h), BL6.out, by rw [List.length_append, List.length_singleton]; omega⟩
            case measure =>
              have hm := HX2.out.1
              have hq := HP.out
              have e1 : w6.iterPos (w.heap.size + 1) = pos + d := by simp [World.iterPos, I6.out]
              rw [e1, P4.out]
              omega
          · have hg0 := H.out.gap rfl
            have own := O5.out.alloc (.cells #[.int .u8 95] 5)
            go_wp2_with (at_builtin; refine wpList_append_own_at _ rfl _ _ 29 rfl w.heap.size 5 i0 (.int .u8 0) 1 1 Tryd.underlying29 hi0 hz0 hz1 hz2 rfl (by decide) _ _ _ rfl own ⟨w5.heap.size, 0, none⟩ 1 1 [.int .u8 95] rfl rfl ?sb1 ?sb2 ?sb3 ?sb4 ?sb5 ?_)
            case sb1 => intro j u hj; cases j with | zero => (simp at hj; subst hj; simp [Addr.add]) | succ j => simp at hj
            case sb2 => intro u hu; simp at hu; subst hu; rfl
            case sb3 => unfold maxLen; omega
            case sb4 => omega
            case sb5 => simp; omega
            intro v6 w6 hown6 hgrow6 _ _
            have bl6 : Below w.heap.size w w6 := (B5.out.alloc b5 _).grown hgrow6 (by simp; omega) (fun k hk => (own.lt k hk).1)
            have I6 := Lib.hid (iter_grown own (iter_alloc I5.out _) hgrow6)
            obtain ⟨g6, k6, rfl⟩ := own_form hown6 (by omega)
            have O6 := Lib.hid hown6
            have BL6 := Lib.hid bl6
            have AP := Lib.hid (app_gap H.out.nm hg0 HX2.out.2 HC.out)
            clear hown6 hgrow6 bl6 own
            have b6 : w.heap.size ≤ w6.heap.size := BL6.out.size
            have own := O6.out.alloc (.cells #[.int .u8 (x : Int)] 5)
            go_wp2_with (at_builtin; refine wpList_append_own_at _ rfl _ _ 29 rfl w.heap.size 5 i0 (.int .u8 0) 1 1 Tryd.underlying29 hi0 hz0 hz1 hz2 rfl (by decide) _ _ _ rfl own ⟨w6.heap.size, 0, none⟩ 1 1 [.int .u8 (x : Int)] rfl rfl ?sc1 ?sc2 ?sc3 ?sc4 ?sc5 ?_)
            case sc1 => intro j u hj; cases j with | zero => (simp at hj; subst hj; simp [Addr.add]) | succ j => simp at hj
            case sc2 => intro u hu; simp at hu; subst hu; rfl
            case sc3 => unfold maxLen; omega
            case sc4 => omega
            case sc5 => simp; omega
            intro v7 w7 hown7 hgrow7 _ _
            have bl7 : Below w.heap.size w w7 := (BL6.out.alloc b6 _).grown hgrow7 (by simp; omega) (fun k hk => (own.lt k hk).1)
            have I7 := Lib.hid (iter_grown own (iter_alloc I6.out _) hgrow7)
            obtain ⟨g7, k7, rfl⟩ := own_form hown7 (by omega)
            have O7 := Lib.hid hown7
            have BL7 := Lib.hid bl7
            clear hown7 hgrow7 bl7 own
            have el : (bs ++ [95] ++ [x]).length = bs.length + 1 + 1 := by simp
            have EL := Lib.hid el
            clear el
            go_wp2_with fail
            go_roundw
            case rel => exact ⟨some ⟨g7, 0, none⟩, k7, pos + 1, bs ++ [95] ++ [x], false, by rw [EL.out], rfl, by have h9 := I7.out; rw [HX2.out.1] at h9; exact h9, by rw [EL.out, show bcells (bs ++ [95] ++ [x]) = bcells bs ++ [.int .u8 95, .int .u8 (x : Int)] by simp [bcells]]; exact O7.out, AP.out, (fun h => by cases h), BL7.out, by rw [EL.out]; omega⟩
            case measure =>
              have hm := HX2.out.1
              have hq := HP.out
              have e1 : w7.iterPos (w.heap.size + 1) = pos + d := by simp [World.iterPos, I7.out]
              rw [e1, P4.out]
              omega
    · have hnx : ∀ ty, (Instr.next (.pointer (some ⟨w.heap.size + 1, 0, none⟩)) true ty).run Tryd.prog wr = .ok (.tuple #[.bool false]) wr := fun ty => run_next_end_at wr _ s pos ty H.out.it hp
      by_cases h0 : bs.length = 0
      · have d0 : (((bs.length : Nat) : Int) == 0) = true := beq_iff_eq.2 (by omega)
        go_wp2_with fail
        go_ret
        exact ⟨_, rfl, .inl rfl, H.out.bl⟩
      · have d0 : (((bs.length : Nat) : Int) == 0) = false := beq_eq_false_iff_ne.2 (by omega)
        obtain ⟨g, k, he⟩ := own_form H.out.own (by omega)
        simp only [Value.slice.injEq] at he
        obtain ⟨rfl, -, rfl⟩ := he
        have h256 : ∀ x ∈ bs, x < 256 := fun x hx => by
          have := H.out.nm.chars x hx
          unfold isLet isDig at this; omega
        have cv := back g c bs wr w.heap.size H.out.own h256
        have FN := Lib.hid (show Nm (bytesN s) (bytesN ⟨(bs.map UInt8.ofNat).toArray⟩) by
          have e1 : bytesN ⟨(bs.map UInt8.ofNat).toArray⟩ = bs := by
            unfold bytesN
            simp only [List.map_map]
            exact map_id bs h256
          have e2 : (bytesN s).take pos = bytesN s := List.take_of_length_le (by rw [bytesN_len]; omega)
          have := H.out.nm
          rw [e2] at this
          rw [e1]; exact this)
        have SZ := Lib.hid (show 0 < (⟨(bs.map UInt8.ofNat).toArray⟩ : ByteArray).size by
          show 0 < (bs.map UInt8.ofNat).toArray.size
          simp; omega)
        clear h256
        go_wp2_with fail
        go_ret
        exact ⟨_, rfl, .inr ⟨SZ.out, FN.out⟩, H.out.bl⟩

end Go.Proofs.YtebnieiolhobmaaDoor
