/-
  Lemmas shared by several laws of this seat; no statement of their own.
-/
import Derived.Test.YtlmjnlijoodbiaaDoorRows
import Derived.WalkKit
import Derived.ProofKit
import Derived.OpenShut
import Derived.Test.YtlmjnlijoodbiaaDoorSlW
import Derived.WalkLawsBesides
import Derived.WalkSpells
import Derived.Below
import Derived.Lib.Hide
import Derived.Outline
import Derived.Laws.MakeOwn
import Derived.LoopTactic
namespace Go.Proofs.YtlmjnlijoodbiaaDoor
open Go.ChangeShapes Go.WideShapes Go.ChangeAt Go.RowKit

set_option linter.unusedVariables false

/-- A clone loop: nil stays nil; else a new block that holds the same elements. -/
def Cloned_u16 (w : World) (A : Option Addr) (n : Nat) (zs : List Value) (e : Ending) (w' : World) : Prop :=
  (A = none ∧ e = .returned (.slice none 0 0) ∧ w' = w) ∨ (A ≠ none ∧ e = .returned (.slice (some ⟨w.heap.size, 0, none⟩) n n) ∧ w' = w.alloc (.cells zs.toArray 49))
theorem info_u16 : (Tryd.prog.info? 49).map (fun i => (i.zero, i.size, i.bytes)) = some (some (.int .u16 0), 1, 2) := by kernel_rfl
theorem clone_u16 (A : Option Addr) (n c : Nat) (us : List Int) (w : World) (hs : Sl w w.heap.size A n (us.map (Value.int .u16))) (hn : n ≤ big20) (hnil : A = none → n = 0 ∧ c = 0) :
    Calls Tryd.prog 6 #[.slice A n c] w (Cloned_u16 w A n (us.map (Value.int .u16))) := by
  cases A with
  | none =>
    obtain ⟨rfl, rfl⟩ := hnil rfl
    have hq := fun (w : World) (a : Option Addr) (l c : Nat) => eql_nil (P := Tryd.prog) w 22 49 a l c Tryd.underlying22
    go_enter Tryd.func6, Tryd.ntmps6
    go_wp2_with fail
    go_ret
    exact .inl ⟨rfl, rfl, rfl⟩
  | some ad =>
    clear hnil
    have hn' := big20_le hn
    obtain ⟨i0, hi, hz0, hz1, hz2⟩ := info_three info_u16
    have hmk := run_make (P := Tryd.prog) w 22 49 i0 (.int .u16 0) Tryd.underlying22 hi hz0 .i64 .i64 n n (by omega) (by omega) (by rw [hz2]; omega) (by omega)
    rw [hz1, Nat.mul_one, Int.toNat_natCast, mid_zero _ (us.map (Value.int .u16)) n rfl] at hmk
    clear hi hz0 hz1 hz2 hn'
    have hq := fun (w : World) (a : Option Addr) (l c : Nat) => eql_nil (P := Tryd.prog) w 22 49 a l c Tryd.underlying22
    go_enter Tryd.func6, Tryd.ntmps6
    go_wp2_with fail
    have hlen : us.length = n := by have := hs.1; simpa using this
    have hnb : n ≤ 9223372036854775807 := by have := big20_le hn; omega
    clear hmk hq
    go_loopw [4] (fun i wr => ∃ k : Nat, k ≤ n ∧ i = .int .i64 k ∧ wr = w.alloc (.cells (mid (.int .u16 0) (us.map (Value.int .u16)) n k) 49)) (fun i _ => n - (intOf i).toNat)
    case atStart => exact ⟨0, by omega, rfl, rfl⟩
    case round =>
      obtain ⟨k, hk, rfl, rfl⟩ := hrel
      by_cases hlt : k < n
      · obtain ⟨b, off, u, hA, hb, hu, hc⟩ := hs.at_ hlt
        obtain rfl : ad = ⟨b, off, none⟩ := by simpa using hA
        obtain ⟨x, rfl⟩ : ∃ x, u = Value.int .u16 x := by
          rw [List.getElem?_map, Option.map_eq_some_iff] at hu; obtain ⟨x, _, hx⟩ := hu; exact ⟨x, hx.symm⟩
        have HS := Lib.hid (mid_set (.int .u16 0) (Value.int .u16 x) (us.map (Value.int .u16)) n k (by simp [hlen]) hlt hu)
        have sz := size_mid (.int .u16 0) (us.map (Value.int .u16)) n k (by simp [hlen]) hk
        have SZ := Lib.hid sz
        have c1 : (mid (.int .u16 0) (us.map (Value.int .u16)) n k)[k]? = some ((mid (.int .u16 0) (us.map (Value.int .u16)) n k)[k]'(by omega)) := Array.getElem?_eq_getElem _
        generalize (mid (.int .u16 0) (us.map (Value.int .u16)) n k)[k]'(by omega) = y at c1
        clear sz hu hA
        go_wp2_with fail
        go_roundw
        case rel => exact ⟨k + 1, by omega, by go_num, by rw [HS.out]⟩
        case measure => simp [intOf]; omega
      · obtain rfl : k = n := by omega
        have HE := Lib.hid (mid_end (.int .u16 0) (us.map (Value.int .u16)) k (by simp [hlen]))
        go_wp2_with fail
        go_ret
        exact .inr ⟨by simp, rfl, by rw [HE.out]⟩

end Go.Proofs.YtlmjnlijoodbiaaDoor
