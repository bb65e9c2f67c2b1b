/-
  Lemmas shared by several laws of this seat; no statement of their own.
-/
import Derived.Test.YtdjiekejkjgamaaRows
import Derived.WalkKit
import Derived.ProofKit
import Derived.OpenShut
import Derived.Test.YtdjiekejkjgamaaSlW
import Derived.Test.YtdjiekejkjgamaaAcU
import Derived.Test.YtdjiekejkjgamaaAcR
import Derived.Test.YtdjiekejkjgamaaAcV
import Derived.Test.YtdjiekejkjgamaaAcI
import Derived.WalkLawsBesides
import Derived.WalkSpells
import Derived.Below
import Derived.Lib.Hide
import Derived.Outline
import Derived.Laws.MakeOwn
import Derived.LoopTactic
import Derived.Lib.Strings
namespace Go.Proofs.Ytdjiekejkjgamaa
open Go.ChangeShapes Go.WideShapes Go.ChangeAt Go.RowKit

set_option linter.unusedVariables false

theorem info_w : (Try.prog.info? 98).map (fun i => (i.zero, i.size, i.bytes)) = some (some (.int .u16 0), 1, 2) := by kernel_rfl
theorem units_at (s : ByteArray) (k : Nat) (h : k < s.size) : ((units s).map (Value.int .u16))[k]? = some (.int .u16 (s[k].toNat : Int)) := by
  have : s.toList[k]? = some s[k] := by
    rw [Lib.toList_data]
    rw [List.getElem?_eq_getElem (by simpa using h)]
    rfl
  unfold units; simp [this]
theorem units_len (s : ByteArray) : ((units s).map (Value.int .u16)).length = s.size := by unfold units; rw [List.length_map, List.length_map, Lib.toList_data]; simp
def U16 (s : ByteArray) (w : World) (e : Ending) (w' : World) : Prop := e = .returned (.slice (some ⟨w.heap.size, 0, none⟩) s.size s.size) ∧ w' = w.alloc (.cells ((units s).map (Value.int .u16)).toArray 98)
theorem utf_any (s : ByteArray) (w : World) (hn : s.size ≤ big20) : Calls Try.prog 12 #[.string s] w (U16 s w) := by
  have hn' := big20_le hn
  obtain ⟨i0, hi, hz0, hz1, hz2⟩ := info_three info_w
  have hmk := run_make (P := Try.prog) w 55 98 i0 (.int .u16 0) Try.underlying55 hi hz0 .i64 .i64 s.size s.size (by omega) (by omega) (by rw [hz2]; omega) (by omega)
  rw [hz1, Nat.mul_one, Int.toNat_natCast, mid_zero _ ((units s).map (Value.int .u16)) s.size rfl] at hmk
  clear hi hz0 hz1 hz2 hn'
  go_enter Try.func12, Try.ntmps12
  go_wp2_with fail
  have hnb : s.size ≤ 9223372036854775807 := by have := big20_le hn; omega
  clear hmk
  go_loopw [4] (fun i wr => ∃ k : Nat, k ≤ s.size ∧ i = .int .i64 k ∧ wr = w.alloc (.cells (mid (.int .u16 0) ((units s).map (Value.int .u16)) s.size k) 98)) (fun i _ => s.size - (intOf i).toNat)
  case atStart => exact ⟨0, by omega, rfl, rfl⟩
  case round =>
    obtain ⟨k, hk, rfl, rfl⟩ := hrel
    by_cases hlt : k < s.size
    · have HS := Lib.hid (mid_set (.int .u16 0) (Value.int .u16 (s[k].toNat : Int)) ((units s).map (Value.int .u16)) s.size k (units_len s) hlt (units_at s k hlt))
      have sz := size_mid (.int .u16 0) ((units s).map (Value.int .u16)) s.size k (units_len s) hk
      have SZ := Lib.hid sz
      have c1 : (mid (.int .u16 0) ((units s).map (Value.int .u16)) s.size k)[k]? = some ((mid (.int .u16 0) ((units s).map (Value.int .u16)) s.size k)[k]'(by omega)) := Array.getElem?_eq_getElem _
      generalize (mid (.int .u16 0) ((units s).map (Value.int .u16)) s.size k)[k]'(by omega) = y at c1
      clear sz
      have b1 : s[k].toNat < 256 := s[k].toNat_lt
      go_wp2_with fail
      go_roundw
      case rel => exact ⟨k + 1, by omega, by go_num, by rw [HS.out]⟩
      case measure => simp [intOf]; omega
    · obtain rfl : k = s.size := by omega
      have HE := Lib.hid (mid_end (.int .u16 0) ((units s).map (Value.int .u16)) s.size (units_len s))
      go_wp2_with fail
      go_ret
      exact ⟨rfl, by rw [HE.out]⟩

end Go.Proofs.Ytdjiekejkjgamaa
