/-
  logger.PlatformIndependentPathDirBaseExt: its parts are pieces of the path; no statement of its own.
-/
import Derived.Test.YtebnieiolhobmaaDoorRows
import Derived.WalkKit
import Derived.ProofKit
import Derived.OpenShut
import Derived.Test.YtebnieiolhobmaaDoorNmA
import Derived.Test.YtebnieiolhobmaaDoorNmS
import Derived.Test.YtebnieiolhobmaaDoorNmB
import Derived.Test.YtebnieiolhobmaaDoorNmC
import Derived.WalkLawsBesides
import Derived.WalkSpells
import Derived.Below
import Derived.Lib.Hide
import Derived.Outline
import Derived.LoopTactic
import Derived.RegionTactic
import Derived.WalkMore
import Derived.Deep.Cut
import Derived.OwnWalk
import Derived.Deep.CutBlock
import Derived.Deep.RegionLaw
import Derived.Laws.Slices
import Derived.Laws.Strings2
import Derived.Laws.Strings3
import Derived.Laws.DeepStrings4
import Derived.Lib.LastIndexByte
import Derived.Deep.QuietTactic
import Derived.BigQuiet
namespace Go.Proofs.YtebnieiolhobmaaDoor
open Go.ChangeShapes Go.WideShapes Go.ChangeAt Go.RowKit
open Go.Shelf Go.Lib
set_option linter.unusedVariables false

/-- t is a piece of s. -/
def Pc (t s : ByteArray) : Prop := (bytesN t).Sublist (bytesN s)
theorem Pc.refl (s : ByteArray) : Pc s s := List.Sublist.refl _
theorem Pc.trans {t s r : ByteArray} (h : Pc t s) (h' : Pc s r) : Pc t r := List.Sublist.trans h h'
theorem Pc.cut (s : ByteArray) (a b : Nat) : Pc (s.extract a b) s := by
  unfold Pc bytesN
  refine List.Sublist.map _ ?_
  rw [ByteArray.data_extract, Array.toList_extract]
  exact (List.take_sublist _ _).trans (List.drop_sublist _ _)
theorem Pc.le {t s : ByteArray} (h : Pc t s) : t.size ≤ s.size := by
  have := List.Sublist.length_le h
  rw [bytesN_len, bytesN_len] at this; exact this
theorem Pc.empty (s : ByteArray) : Pc ⟨#[]⟩ s := by unfold Pc bytesN; exact List.nil_sublist _
def strSize : Value → Nat
  | .string p => p.size
  | _ => 0
theorem last_byte (s : ByteArray) (w : World) (hs : s.size ≤ 1048576) : Calls Tryd.prog 11 #[.string s, .int .u8 46] w fun e w' => (e = .returned (.int .i64 (-1)) ∨ ∃ i : Nat, i < s.size ∧ e = .returned (.int .i64 (i : Int))) ∧ w' = w := by
  refine (Tryd.strings_LastIndexByte s 46 (by omega) w).mono fun e w' he => ⟨?_, he.2⟩
  rcases lastIndexByte_spec s 46 with ⟨h, -⟩ | ⟨i, hi, h, -⟩
  · left; rw [he.1, h]
  · right; exact ⟨i, hi, by rw [he.1, h]⟩
/-- What the parts are. -/
def Parts (s : ByteArray) (w : World) (e : Ending) (w' : World) : Prop := ∃ d b x : ByteArray, e = .returned (.tuple #[.string d, .string b, .string x]) ∧ Pc d s ∧ Pc b s ∧ Below w.heap.size w w'
set_option maxRecDepth 100000 in
set_option maxHeartbeats 4000000 in
theorem path_parts (s : ByteArray) (w : World) (hs : s.size ≤ 1048576) (hT : Utf8Tabs 1 2 w) : Calls Tryd.prog 8 #[.string s] w (Parts s w) := by
  have HT := Lib.hid hT
  have HS := Lib.hid hs
  clear hT hs
  go_enter Tryd.func8, Tryd.ntmps8
  go_upto_region 2 with fail
  go_cut [22] from 10 (fun v wx => (∃ b : Bool, v = .bool b) ∧ wx = w)
  case first => as_aux_lemma =>
    by_cases h0 : 0 < s.size
    · have h0' : (0 : Int) < (s.size : Int) := by omega
      go_wp2_with fail
      all_goals
        go_meet
        case rel => exact ⟨⟨_, rfl⟩, rfl⟩
    · have h0' : decide ((0 : Int) < (s.size : Int)) = false := decide_eq_false (by omega)
      go_wp2_with fail
      go_meet
      case rel => exact ⟨⟨_, rfl⟩, rfl⟩
  as_aux_lemma =>
    obtain ⟨⟨b, rfl⟩, rfl⟩ := hcut
    obtain ⟨w, rfl⟩ : ∃ x : World, x = wc := ⟨_, rfl⟩
    go_upto_if 22 with fail
    go_cut [5, 6] from 10 (fun v _ wx => (∃ a : Int, v = .int .i64 a) ∧ wx = w)
    case first => as_aux_lemma =>
      cases b
      · by_cases h2 : 2 < s.size
        · have h2' : (2 : Int) < (s.size : Int) := by omega
          have h1' : (1 : Int) < (s.size : Int) := by omega
          have h0' : (0 : Int) < (s.size : Int) := by omega
          have h1 : 1 < s.size := by omega
          have h0 : 0 < s.size := by omega
          go_wp2_with fail
          all_goals
            go_meet
            case rel => exact ⟨⟨_, rfl⟩, rfl⟩
        · have h0' : decide ((2 : Int) < (s.size : Int)) = false := decide_eq_false (by omega)
          go_wp2_with fail
          go_meet
          case rel => exact ⟨⟨_, rfl⟩, rfl⟩
      · go_wp2_with fail
        go_meet
        case rel => exact ⟨⟨_, rfl⟩, rfl⟩
    as_aux_lemma =>
      obtain ⟨⟨a, rfl⟩, rfl⟩ := hcut
      obtain ⟨w, rfl⟩ : ∃ x : World, x = wc := ⟨_, rfl⟩
      go_upto_block 0 with fail
      go_cut [0, 2, 3, 7] from 10 (fun p d b _ wx => ∃ pp dd bb : ByteArray, p = .string pp ∧ d = .string dd ∧ b = .string bb ∧ Hid (Pc dd s ∧ Pc bb s ∧ Below w.heap.size w wx))
      case first => as_aux_lemma =>
        go_wp2_with fail
        go_loopw [0, 2] (fun v d wr => ∃ p : ByteArray, v = .string p ∧ d = .string ⟨#[]⟩ ∧ Hid (Pc p s ∧ Below w.heap.size w wr)) (fun v _ _ => strSize v)
        case atStart => exact ⟨s, rfl, rfl, Lib.hid ⟨Pc.refl s, Below.refl _ _⟩⟩
        case round =>
          obtain ⟨p, rfl, rfl, H⟩ := hrel
          have hps : p.size ≤ 1048576 := by have := H.out.1.le; have := HS.out; omega
          go_wp2_with fail
          refine (last_any p wr hps (tabs_below HT.out H.out.2)).mono ?_
          rintro e w4 ⟨i, rfl, hi0, hi1, hb4⟩
          have B4 := Lib.hid (H.out.2.trans (hb4.mono H.out.2.size))
          have HP := Lib.hid H.out.1
          clear hb4 H
          by_cases hneg : i = -1
          · subst hneg
            go_wp2_with fail
            go_meet
            case rel => exact ⟨_, _, _, rfl, rfl, rfl, Pc.empty s, HP.out, B4.out⟩
          · obtain ⟨j, rfl⟩ : ∃ j : Nat, i = j := ⟨i.toNat, by omega⟩
            have hjl : j < p.size := by omega
            have n0 : decide ((j : Int) < 0) = false := decide_eq_false (by omega)
            have a1 : wrap64 ((j : Int) + 1) = (j : Int) + 1 := by unfold wrap64; omega
            have a2 : IntKind.i64.wrap ((j : Int) + 1) = (j : Int) + 1 := IntWalk.i64_in _ (by omega)
            have a3 : (0 : Int) ≤ (j : Int) + 1 := by omega
            have a4 : (j : Int) + 1 ≤ (p.size : Int) := by omega
            have a5 : (0 : Int) ≤ (j : Int) := by omega
            have a6 : (j : Int) ≤ (p.size : Int) := by omega
            clear hi0 hi1 hneg
            by_cases hroot : (j : Int) = a
            · subst hroot
              go_wp2_with fail
              go_quiet (fail)
              go_wp2_with fail
              go_meet
              case rel => exact ⟨_, _, _, rfl, rfl, rfl, (Pc.cut _ _ _).trans HP.out, (Pc.cut _ _ _).trans HP.out, below_drewN B4.out _⟩
            · have r0 : ((j : Int) == a) = false := beq_eq_false_iff_ne.2 hroot
              by_cases hend : j + 1 = p.size
              · have r1 : ((j : Int) + 1 != (p.size : Int)) = false := by simp; omega
                go_wp2_with fail
                go_roundw
                case rel => exact ⟨_, rfl, rfl, (Pc.cut _ _ _).trans HP.out, B4.out⟩
                case measure => simp [strSize]; omega
              · have r1 : ((j : Int) + 1 != (p.size : Int)) = true := by simp; omega
                go_wp2_with fail
                go_quiet (fail)
                go_wp2_with fail
                go_meet
                case rel => exact ⟨_, _, _, rfl, rfl, rfl, (Pc.cut _ _ _).trans HP.out, (Pc.cut _ _ _).trans HP.out, below_drewN B4.out _⟩
      as_aux_lemma =>
        obtain ⟨pp, dd, bb, rfl, rfl, rfl, H⟩ := hcut
        have hbs : bb.size ≤ 1048576 := by have := H.out.2.1.le; have := HS.out; omega
        go_wp2_with fail
        refine (last_byte bb wc hbs).mono ?_
        rintro e w5 ⟨he, rfl⟩
        rcases he with rfl | ⟨i, hi, rfl⟩
        · go_wp2_with fail
          go_ret3
          exact ⟨_, _, _, rfl, H.out.1, H.out.2.1, H.out.2.2⟩
        · have a3 : (0 : Int) ≤ (i : Int) := by omega
          have a4 : (i : Int) ≤ (bb.size : Int) := by omega
          go_wp2_with fail
          · refine (last_byte (bb.extract 0 i) w5 (by simp; omega)).mono ?_
            rintro e w6 ⟨he, rfl⟩
            rcases he with rfl | ⟨k, hk, rfl⟩
            · go_wp2_with fail
              go_ret3
              exact ⟨_, _, _, rfl, H.out.1, (Pc.cut _ _ _).trans H.out.2.1, H.out.2.2⟩
            · have hki : k < i := by simp at hk; omega
              have a5 : (0 : Int) ≤ (k : Int) := by omega
              have a6 : (k : Int) ≤ (bb.size : Int) := by omega
              go_wp2_with fail
              all_goals
                go_ret3
                exact ⟨_, _, _, rfl, H.out.1, (Pc.cut _ _ _).trans H.out.2.1, H.out.2.2⟩
          · go_ret3
            exact ⟨_, _, _, rfl, H.out.1, (Pc.cut _ _ _).trans H.out.2.1, H.out.2.2⟩

end Go.Proofs.YtebnieiolhobmaaDoor
