/-
  strings.LastIndexAny at the two slashes: where the answer lies; no statement of its own.
-/
import Derived.Test.YtebnieiolhobmaaDoorRows
import Derived.WalkKit
import Derived.ProofKit
import Derived.OpenShut
import Derived.Test.YtebnieiolhobmaaDoorNmS
import Derived.Test.YtebnieiolhobmaaDoorNmB
import Derived.WalkLawsBesides
import Derived.WalkSpells
import Derived.Below
import Derived.Lib.Hide
import Derived.Outline
import Derived.LoopTactic
import Derived.RegionTactic
import Derived.WalkMore
import Derived.Laws.Slices
import Derived.Laws.Strings2
import Derived.Laws.Strings3
import Derived.Laws.DeepStrings4
import Derived.Lib.TrimU
import Derived.Shelf.Strings.IndexAnyAll
import Derived.Deep.QuietTactic
import Derived.BigQuiet
namespace Go.Proofs.YtebnieiolhobmaaDoor
open Go.ChangeShapes Go.WideShapes Go.ChangeAt Go.RowKit
open Go.Shelf Go.Lib
set_option linter.unusedVariables false

theorem index_any (r : Int) (w : World) (h0 : 0 ≤ r) (h1 : r ≤ 1114111) : Calls Tryd.prog 12 #[.string slashes, .int .i32 r] w fun e w' => ∃ i : Int, e = .returned (.int .i64 i) ∧ Below w.heap.size w w' := by
  obtain ⟨n, rfl⟩ : ∃ n : Nat, r = n := ⟨r.toNat, by omega⟩
  by_cases h : n < 128
  · exact (Tryd.strings_IndexRune_ascii slashes n w (by omega) (by omega)).mono fun e w' he => ⟨_, he.1, by rw [he.2]; exact Below.refl _ _⟩
  · by_cases h3 : n = 65533
    · subst h3; exact index_bad w
    · exact index_far slashes rfl (fun h => by have e : (slashes[1]'h).toNat = 92 := rfl; omega) n w (by omega) (by omega) h3
/-- Where the answer lies. -/
def Lies (s : ByteArray) (w : World) (e : Ending) (w' : World) : Prop := ∃ i : Int, e = .returned (.int .i64 i) ∧ -1 ≤ i ∧ i < s.size ∧ Below w.heap.size w w'
set_option maxRecDepth 100000 in
theorem last_one (s : ByteArray) (w : World) (hs : s.size = 1) : Calls Tryd.prog 10 #[.string s, .string slashes] w (Lies s w) := by
  have n1 : ((s.size : Int) == 1) = true := beq_iff_eq.2 (by omega)
  have n0 : 0 < s.size := by omega
  have n0' : (0 : Int) < (s.size : Int) := by omega
  have HS := Lib.hid hs
  have hb := UInt8.toNat_lt (s[0]'n0)
  clear hs
  by_cases hx : (s[0]'n0).toNat < 128
  · have d1 : decide ((128 : Int) ≤ ((s[0]'n0).toNat : Int)) = false := by simp; omega
    go_enter Tryd.func10, Tryd.ntmps10
    go_wp2_with (go_at_call 12; refine (index_any _ _ (by omega) (by omega)).mono ?_; rintro e w' ⟨i, rfl, hw⟩)
    all_goals
      go_ret
      exact ⟨_, rfl, by omega, by have := HS.out; omega, hw⟩
  · have d1 : decide ((128 : Int) ≤ ((s[0]'n0).toNat : Int)) = true := by simp; omega
    go_enter Tryd.func10, Tryd.ntmps10
    go_wp2_with (go_at_call 12; refine (index_any _ _ (by omega) (by omega)).mono ?_; rintro e w' ⟨i, rfl, hw⟩)
    all_goals
      go_ret
      exact ⟨_, rfl, by omega, by have := HS.out; omega, hw⟩
theorem zero33 : (Tryd.prog.info? 33).map (fun i => (i.zero, i.size)) = some (some (.agg (Array.replicate 256 (.bool false))), 256) := by kernel_rfl
theorem slashes_ascii : ∀ (j : Nat) b, slashes.data.toList[j]? = some b → b.toNat < 128 := by
  intro j b h
  match j, h with
  | 0, h => (have e : b = 47 := by simpa using h.symm
             subst e; decide)
  | 1, h => (have e : b = 92 := by simpa using h.symm
             subst e; decide)
  | (j + 2), h => simp at h
set_option maxHeartbeats 8000000 in
set_option maxRecDepth 1000000 in
theorem last_long (s : ByteArray) (w : World) (h8 : 8 < s.size) (hs : s.size ≤ 1048576) : Calls Tryd.prog 10 #[.string s, .string slashes] w (Lies s w) := by
  obtain ⟨cs, hcs⟩ : ∃ cs, cs = Lib.setCells slashes.data.toList := ⟨_, rfl⟩
  have hM := Tryd.strings_makeASCIISet (zero_of_info zero33).1 slashes w (by decide) slashes_ascii
  rw [← hcs] at hM
  have n1 : ((s.size : Int) == 1) = false := beq_eq_false_iff_ne.2 (by omega)
  have h8z : decide ((8 : Int) < (s.size : Int)) = true := decide_eq_true (by omega)
  have hw1 : wrap64 ((s.size : Int) - 1) = (s.size : Int) - 1 := by unfold wrap64; omega
  have hw1' : IntKind.i64.wrap ((s.size : Int) - 1) = (s.size : Int) - 1 := IntWalk.i64_in _ (by omega)
  have hsc : (storeCells ⟨w.heap.size + 1, 0, none⟩ cs.toList 0).run Tryd.prog ((w.alloc (.cells cs 33)).alloc (.cells (Array.replicate 256 (.bool false)) 33)) = .ok () ((w.alloc (.cells cs 33)).alloc (.cells cs 33)) := by
    rw [hcs]
    have := run_storeCells_new (P := Tryd.prog) (w.alloc (.cells (Lib.setCells slashes.data.toList) 33)) 33 (Array.replicate 256 (.bool false)) (Lib.setCells slashes.data.toList) (by rw [Lib.setCells_size]; exact (zero_of_info zero33).2) (by rw [Lib.setCells_size, Array.size_replicate]) (Lib.setCells_one _)
    simpa using this
  have hsz : cs.size = 256 := by rw [hcs]; exact Lib.setCells_size _
  have HC : Hid (∀ x : UInt8, ((w.alloc (.cells cs 33)).alloc (.cells cs 33)).cell? ⟨w.heap.size + 1, x.toNat, none⟩ = some (.bool (slashes.data.toList.contains x))) := Lib.hid fun x => by
    rw [World.cell?_alloc_at _ _ _ _ (by simp), hcs, Lib.setCells_at]
  have HS := Lib.hid hs
  have H8 := Lib.hid h8
  have z33 := (zero_of_info zero33).1
  clear hcs hs h8
  go_enter Tryd.func10, Tryd.ntmps10
  go_wp2_with (first
    | (go_at_call 13; refine (Tryd.strings_shouldUseASCIISet _ _).mono ?_; rintro e w' ⟨rfl, rfl⟩; rw [h8z])
    | (go_at_call 14; refine hM.mono ?_; rintro e w' ⟨rfl, rfl⟩))
  clear hM hsc z33
  obtain ⟨w0, rfl⟩ : ∃ x : World, x = w' := ⟨_, rfl⟩
  obtain ⟨W2, hW2⟩ : ∃ W2, W2 = (w0.alloc (.cells cs 33)).alloc (.cells cs 33) := ⟨_, rfl⟩
  rw [← hW2] at HC ⊢
  have BL : Hid (Below w0.heap.size w0 W2) := by rw [hW2]; exact Lib.hid (((Below.refl _ _).alloc (Nat.le_refl _) _).alloc (by simp) _)
  clear hW2
  go_loopw [8] (fun v wr => ∃ k : Nat, k ≤ s.size ∧ v = .int .i64 ((k : Int) - 1) ∧ wr = W2) (fun v _ => (RowKit.intOf v + 1).toNat)
  case atStart => exact ⟨s.size, Nat.le_refl _, rfl, rfl⟩
  case round =>
    obtain ⟨k, hk, rfl, rfl⟩ := hrel
    cases k with
    | zero =>
      have e0 : ((0 : Nat) : Int) - 1 = -1 := rfl
      rw [e0]
      go_wp2_with fail
      go_ret
      exact ⟨_, rfl, by omega, by have := H8.out; omega, BL.out⟩
    | succ j =>
      have e0 : ((j + 1 : Nat) : Int) - 1 = (j : Int) := by omega
      rw [e0]
      have hi : j < s.size := by omega
      have hiz : (j : Int) < (s.size : Int) := by omega
      have hi0 : (0 : Int) ≤ (j : Int) := by omega
      have hwj : wrap64 ((j : Int) - 1) = (j : Int) - 1 := by have := HS.out; unfold wrap64; omega
      have hwj' : IntKind.i64.wrap ((j : Int) - 1) = (j : Int) - 1 := IntWalk.i64_in _ (by have := HS.out; omega)
      obtain ⟨x, hx⟩ : ∃ x : UInt8, s[j]'hi = x := ⟨_, rfl⟩
      have hcx := HC.out x
      cases hin : slashes.data.toList.contains x <;> rw [hin] at hcx
      · go_wp2_with (go_at_call 15; refine (Tryd.asciiSet_contains _ x _ _ hcx).mono ?_; rintro e w' ⟨rfl, rfl⟩)
        go_roundw
        case rel => exact ⟨j, by omega, by first | rfl | trivial, by first | rfl | trivial⟩
        case measure => simp [RowKit.intOf]
      · go_wp2_with (go_at_call 15; refine (Tryd.asciiSet_contains _ x _ _ hcx).mono ?_; rintro e w' ⟨rfl, rfl⟩)
        go_ret
        exact ⟨_, rfl, by omega, by omega, BL.out⟩
set_option maxRecDepth 100000 in
set_option maxHeartbeats 1000000 in
theorem last_short (s : ByteArray) (w : World) (h1 : s.size ≠ 1) (h8 : s.size ≤ 8) (hT : Utf8Tabs 1 2 w) : Calls Tryd.prog 10 #[.string s, .string slashes] w (Lies s w) := by
  have n1 : ((s.size : Int) == 1) = false := beq_eq_false_iff_ne.2 (by omega)
  have h8z : decide ((8 : Int) < (s.size : Int)) = false := by simp; omega
  have HT := Lib.hid hT
  have H8 := Lib.hid h8
  clear hT h8
  go_enter Tryd.func10, Tryd.ntmps10
  go_wp2_with (go_at_call 13; refine (Tryd.strings_shouldUseASCIISet _ _).mono ?_; rintro e w' ⟨rfl, rfl⟩; rw [h8z])
  obtain ⟨w0, rfl⟩ : ∃ x : World, x = w' := ⟨_, rfl⟩
  go_loopw [13] (fun v wr => ∃ k : Nat, k ≤ s.size ∧ v = .int .i64 k ∧ Hid (Below w0.heap.size w0 wr)) (fun v _ => (RowKit.intOf v).toNat)
  case atStart => exact ⟨s.size, Nat.le_refl _, rfl, Lib.hid (Below.refl _ _)⟩
  case round =>
    obtain ⟨k, hk, rfl, HB⟩ := hrel
    by_cases h0 : k = 0
    · subst h0
      go_wp2_with fail
      go_ret
      exact ⟨_, rfl, by omega, by omega, HB.out⟩
    · have d0 : decide ((0 : Int) < (k : Int)) = true := by simp; omega
      have d0' : 0 < k := by omega
      have l0 : (0 : Int) ≤ (k : Int) := by omega
      have l1 : (k : Int) ≤ (s.size : Int) := by omega
      have hlen : (s.extract 0 k).data.toList.length = k := by simp; omega
      have hw := decodeLastL_width (s.extract 0 k).data.toList (by omega)
      have hr := decodeLastL_rune (s.extract 0 k).data.toList
      have DC := Lib.hid (Tryd.utf8_DecodeLastRuneInString (s.extract 0 k) wr (by have := H8.out; simp; omega) (tabs_below HT.out HB.out))
      obtain ⟨d, hd⟩ : ∃ d, d = (decodeLastL (s.extract 0 k).data.toList).2 := ⟨_, rfl⟩
      obtain ⟨r, hrr⟩ : ∃ r, r = (decodeLastL (s.extract 0 k).data.toList).1 := ⟨_, rfl⟩
      rw [← hd, ← hrr] at DC
      rw [← hd, hlen] at hw
      rw [← hrr] at hr
      obtain ⟨j, hj⟩ : ∃ j, k = j + d := ⟨k - d, by omega⟩
      have hw1 : wrap64 ((k : Int) - (d : Int)) = (j : Int) := by have := H8.out; unfold wrap64; omega
      have hw2 : IntKind.i64.wrap ((k : Int) - (d : Int)) = (j : Int) := by rw [IntWalk.i64_in _ (by have := H8.out; omega)]; omega
      have HJ := Lib.hid (show j + d = k ∧ 1 ≤ d ∧ k ≤ s.size by omega)
      clear hd hrr hlen hw hj
      go_wp2_with (go_at_call 16; refine DC.out.mono ?_; rintro e w3 ⟨rfl, hb3⟩)
      have B3 := Lib.hid (HB.out.trans (hb3.mono HB.out.size))
      clear hb3
      go_wp2_with (go_at_call 12; refine (index_any _ _ (by omega) (by omega)).mono ?_; rintro e w4 ⟨i, rfl, hb4⟩)
      all_goals have B4 := Lib.hid (B3.out.trans (hb4.mono B3.out.size))
      all_goals clear hb4
      · go_ret
        exact ⟨_, rfl, by omega, by have := HJ.out; omega, B4.out⟩
      · go_roundw
        case rel => exact ⟨j, by have := HJ.out; omega, by first | rfl | trivial, B4⟩
        case measure => have := HJ.out; simp [RowKit.intOf]; omega
theorem last_any (s : ByteArray) (w : World) (hs : s.size ≤ 1048576) (hT : Utf8Tabs 1 2 w) : Calls Tryd.prog 10 #[.string s, .string slashes] w (Lies s w) := by
  by_cases h1 : s.size = 1
  · exact last_one s w h1
  · by_cases h8 : 8 < s.size
    · exact last_long s w h8 hs
    · exact last_short s w h1 (by omega) hT

end Go.Proofs.YtebnieiolhobmaaDoor
