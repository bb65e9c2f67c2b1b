/-
  strings.IndexRune at the two slashes, and strings.LastIndexAny: where the answer lies; no statement of its own.
-/
import Derived.Test.YtebnieiolhobmaaDoorRows
import Derived.WalkKit
import Derived.ProofKit
import Derived.OpenShut
import Derived.Test.YtebnieiolhobmaaDoorNmS
import Derived.WalkLawsBesides
import Derived.WalkSpells
import Derived.Below
import Derived.Lib.Hide
import Derived.Outline
import Derived.LoopTactic
import Derived.Laws.RangeAny
import Derived.Laws.Runes
import Derived.Laws.Slices
import Derived.Laws.Strings2
import Derived.Laws.Strings3
import Derived.Laws.DeepStrings4
import Derived.Laws.RangeString
import Derived.Lib.TrimU
import Derived.Lib.RuneCount
import Derived.RegionTactic
import Derived.StillTailTactics
import Derived.Deep.RegionHeld3
import Derived.WalkMore
import Derived.Deep.Cut
import Derived.Deep.RegionLaw
import Derived.Deep.QuietTactic
import Derived.BigQuiet
namespace Go.Proofs.YtebnieiolhobmaaDoor
open Go.ChangeShapes Go.WideShapes Go.ChangeAt Go.RowKit
open Go.Shelf Go.Lib
set_option linter.unusedVariables false

/-- The two slashes. -/
abbrev slashes : ByteArray := ⟨#[47, 92]⟩
theorem tabs_below {w w' : World} (h : Utf8Tabs 1 2 w) (hb : Below w.heap.size w w') : Utf8Tabs 1 2 w' := by
  have hk : ∀ (a : Addr) (v : Value), w.cell? a = some v → w'.cell? a = some v := by
    intro a v hc
    have hlt : a.block < w.heap.size := by
      rcases Nat.lt_or_ge a.block w.heap.size with h | h
      · exact h
      · simp [World.cell?, Array.getElem?_eq_none h] at hc
    rw [← hc]; simp [World.cell?, hb.block a.block hlt]
  exact ⟨fun c hc => hk _ _ (h.1 c hc), fun i hi => ⟨hk _ _ (h.2 i hi).1, hk _ _ (h.2 i hi).2⟩⟩
theorem iter_below (w : World) (s : ByteArray) (pos : Nat) : Below w.heap.size w (w.iter s pos) := (Below.refl _ _).alloc (Nat.le_refl _) _
theorem below_drewN {B : Nat} {w w' : World} (h : Below B w w') (q : Nat) : Below B w (w'.drewN q) := ⟨h.1, h.2, h.3, h.4, h.5⟩
set_option maxRecDepth 100000 in
theorem index_bad (w : World) : Calls Tryd.prog 12 #[.string slashes, .int .i32 65533] w fun e w' => ∃ i : Int, e = .returned (.int .i64 i) ∧ Below w.heap.size w w' := by
  go_enter Tryd.func12, Tryd.ntmps12
  go_wp2_with fail
  go_loopw [] (fun wr => ∃ pos : Nat, wr = w.iter slashes pos) (fun wr => slashes.size - wr.iterPos w.heap.size)
  case atStart => exact ⟨0, rfl⟩
  case round =>
    obtain ⟨pos, rfl⟩ := hrel
    by_cases hp : pos < slashes.size
    · have hnx : ∀ ty, (Instr.next (.pointer (some ⟨w.heap.size, 0, none⟩)) true ty).run Tryd.prog (w.iter slashes pos) = _ := fun ty => run_next_any w slashes pos ty hp
      have hwd := decode_width_pos slashes pos hp
      go_wp2_with fail
      · go_ret
        exact ⟨_, rfl, iter_below _ _ _⟩
      · go_roundw
        case rel => exact ⟨_, rfl⟩
        case measure =>
          simp only [World.iterPos_iter]
          omega
    · have hnx : ∀ ty, (Instr.next (.pointer (some ⟨w.heap.size, 0, none⟩)) true ty).run Tryd.prog (w.iter slashes pos) = _ := fun ty => run_next_end w slashes pos ty hp
      go_wp2_with fail
      go_ret
      exact ⟨_, rfl, iter_below _ _ _⟩
theorem ib_empty (s : ByteArray) (c : Int) (w : World) (h : s.data.toList = []) : Calls Tryd.prog 18 #[.string s, .int .u8 c] w fun e w' => e = .returned (.int .i64 (-1)) ∧ w' = w :=
  (Tryd.strings_IndexByte s c w).mono fun e w' he => ⟨he.1.trans (by rw [h]; rfl), he.2⟩
theorem enc_form (r : Nat) (h1 : 128 ≤ r) (h2 : Utf8.valid (r : Int) = true) : (∃ a b : UInt8, Utf8.encode (r : Int) = ⟨#[a, b]⟩ ∧ 128 ≤ b.toNat) ∨ (∃ a b c : UInt8, Utf8.encode (r : Int) = ⟨#[a, b, c]⟩) ∨ ∃ a b c d : UInt8, Utf8.encode (r : Int) = ⟨#[a, b, c, d]⟩ := by
  unfold Utf8.encode
  simp only [h2, if_true, Int.toNat_natCast]
  rw [if_neg (by omega)]
  by_cases h : r < 2048
  · rw [if_pos h]
    refine .inl ⟨_, _, rfl, ?_⟩
    show 128 ≤ (UInt8.ofNat (0x80 + r % 64)).toNat
    simp; omega
  · rw [if_neg h]
    by_cases h' : r < 65536
    · rw [if_pos h']; exact .inr (.inl ⟨_, _, _, rfl⟩)
    · rw [if_neg h']; exact .inr (.inr ⟨_, _, _, _, rfl⟩)
set_option maxRecDepth 100000 in
theorem index_far (s : ByteArray) (hs : s.size = 2) (hs1 : ∀ h : 1 < s.size, (s[1]'h).toNat < 128) (r : Nat) (w : World) (h1 : 128 ≤ r) (hr : r ≤ 1114111) (h3 : r ≠ 65533) : Calls Tryd.prog 12 #[.string s, .int .i32 (r : Int)] w fun e w' => ∃ i : Int, e = .returned (.int .i64 i) ∧ Below w.heap.size w w' := by
  have e1 : decide ((r : Int) < 128) = false := by simp; omega
  have e2 : ((r : Int) == 65533) = false := beq_eq_false_iff_ne.2 (by omega)
  have e0 : decide ((0 : Int) ≤ (r : Int)) = true := by simp
  have e5 : decide (r < 128) = false := by simp; omega
  cases hv : Lib.validRune (r : Int) with
  | false =>
    go_enter Tryd.func12, Tryd.ntmps12
    go_wp2_with (go_at_call 19; refine (Tryd.utf8_ValidRune _ _).mono ?_; rintro e w' ⟨rfl, rfl⟩; rw [hv])
    go_ret
    exact ⟨_, rfl, Below.refl _ _⟩
  | true =>
    have hv2 : Utf8.valid (r : Int) = true := by
      unfold Lib.validRune at hv
      unfold Utf8.valid
      simp at hv ⊢
      omega
    have l2 : decide ((2 : Int) < (s.size : Int)) = false := by simp; omega
    have l3 : decide ((3 : Int) < (s.size : Int)) = false := by simp; omega
    have l1 : decide ((1 : Int) < (s.size : Int)) = true := by simp; omega
    have n2 : (2 : Int) ≤ (s.size : Int) := by omega
    have n1 : 1 < s.size := by omega
    have hw2 : IntKind.i64.wrap 2 = 2 := by decide
    have n1' : (1 : Int) < (s.size : Int) := by omega
    have hx : (s.extract 2 s.size).data.toList = [] := by rw [hs]; simp
    have hsl : ∀ w, (Instr.sliceAt 9 (.string s) (some (.int .i64 2)) none none).run Tryd.prog w = .ok (.string (s.extract 2 s.size)) w := fun w => by
      rw [run_sliceAt_string _ _ _ _ _ _ Tryd.underlying9, run_slice_string_l _ _ _ Tryd.underlying9 _ _ (by omega) n2]; rfl
    rcases enc_form r h1 hv2 with ⟨a, b, he, hb⟩ | ⟨a, b, c, he⟩ | ⟨a, b, c, d, he⟩
    · have hne : (((s[1]'n1).toNat : Int) != (((⟨#[a, b]⟩ : ByteArray)[1]'(by show 1 < 2; omega)).toNat : Int)) = true := by
        have e2 : (((⟨#[a, b]⟩ : ByteArray)[1]'(by show 1 < 2; omega)).toNat : Int) = (b.toNat : Int) := rfl
        have e3 := hs1 n1
        rw [e2]; simp; omega
      have cv : ∀ w, (convert 21 9 (.int .i32 (r : Int))).run Tryd.prog w = .ok (.string ⟨#[a, b]⟩) w := fun w => by rw [run_convert_int_string (P := Tryd.prog) w 21 9 .i32 (r : Int) (by kernel_rfl) Tryd.underlying9, he]
      clear hs hs1 he hb hv2 h1 hr h3 n2 l2 l3
      go_enter Tryd.func12, Tryd.ntmps12
      go_wp2_with (go_at_call 19; refine (Tryd.utf8_ValidRune _ _).mono ?_; rintro e w' ⟨rfl, rfl⟩; rw [hv])
      go_step3
      go_wp2_with fail
      refine wp_loop_rounds 1 ?_
      rw [rounds_succ]
      go_wp2_with fail
      go_step3
      go_upto_region 6 with fail
      go_quiet (fail)
      go_upto_region 7 with fail
      clear cv
      go_still_tail 7, (by kernel_rfl)
      change wpList _ _ _ _ _ (w'.drewN nq).drew
      go_wp2_with (go_at_call 18; refine (ib_empty _ _ _ hx).mono ?_; rintro e w2 ⟨rfl, rfl⟩)
      rw [Exit.noGoto_ret]
      go_wp2_with fail
      rw [Exit.noGoto_ret]
      go_ret
      exact ⟨_, rfl, below_drewN (Below.refl _ _) _⟩
    · have cv : ∀ w, (convert 21 9 (.int .i32 (r : Int))).run Tryd.prog w = .ok (.string ⟨#[a, b, c]⟩) w := fun w => by rw [run_convert_int_string (P := Tryd.prog) w 21 9 .i32 (r : Int) (by kernel_rfl) Tryd.underlying9, he]
      go_enter Tryd.func12, Tryd.ntmps12
      go_wp2_with (go_at_call 19; refine (Tryd.utf8_ValidRune _ _).mono ?_; rintro e w' ⟨rfl, rfl⟩; rw [hv])
      go_step3
      go_wp2_with fail
      refine wp_loop_rounds 1 ?_
      rw [rounds_succ]
      go_wp2_with fail
      rw [Exit.noGoto_ret]
      go_ret
      exact ⟨_, rfl, Below.refl _ _⟩
    · have cv : ∀ w, (convert 21 9 (.int .i32 (r : Int))).run Tryd.prog w = .ok (.string ⟨#[a, b, c, d]⟩) w := fun w => by rw [run_convert_int_string (P := Tryd.prog) w 21 9 .i32 (r : Int) (by kernel_rfl) Tryd.underlying9, he]
      go_enter Tryd.func12, Tryd.ntmps12
      go_wp2_with (go_at_call 19; refine (Tryd.utf8_ValidRune _ _).mono ?_; rintro e w' ⟨rfl, rfl⟩; rw [hv])
      go_step3
      go_wp2_with fail
      refine wp_loop_rounds 1 ?_
      rw [rounds_succ]
      go_wp2_with fail
      rw [Exit.noGoto_ret]
      go_ret
      exact ⟨_, rfl, Below.refl _ _⟩

end Go.Proofs.YtebnieiolhobmaaDoor
