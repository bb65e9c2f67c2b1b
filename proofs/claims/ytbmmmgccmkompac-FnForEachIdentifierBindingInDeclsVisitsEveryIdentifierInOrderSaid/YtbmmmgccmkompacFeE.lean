/-
  zzCloneU8, walked; no statement of its own.
-/
import Derived.Test.YtbmmmgccmkompacRows
import Derived.WalkKit
import Derived.ProofKit
import Derived.OpenShut
import Derived.Test.YtbmmmgccmkompacSlW
import Derived.WalkLawsBesides
import Derived.WalkSpells
import Derived.Below
import Derived.Lib.Hide
import Derived.Outline
import Derived.Laws.MakeOwn
import Derived.Laws.CopyOwn
import Derived.OwnWalk
import Derived.Laws.CopyRow
import Derived.Laws.IdiomCopy
import Derived.Deep.WholeRow
namespace Go.Proofs.Ytbmmmgccmkompac
open Go.ChangeShapes Go.WideShapes Go.ChangeAt Go.RowKit

set_option linter.unusedVariables false

theorem info_8 : (Try.prog.info? 5).map (fun i => (i.zero, i.size, i.bytes)) = some (some (.int .u8 0), 1, 1) := by kernel_rfl
theorem sz_8 : (Try.prog.info? 5).map (·.size) = some 1 := by kernel_rfl
def zeros (n : Nat) : List Value := List.replicate n (.int .u8 0)
theorem zeros_len (n : Nat) : (zeros n).length = n := by simp [zeros]
theorem made_zeros (n : Nat) : madeCells (Value.int .u8 0).cells n = (zeros n).toArray := by
  unfold madeCells zeros
  apply Array.ext
  · simp
  · intro i h1 h2
    simp [Value.cells, Nat.mod_one]
theorem one_u8 (us : List Int) : ∀ v ∈ us.map (Value.int .u8), v.oneCell' = true := by
  intro v hv; simp at hv; obtain ⟨a, _, rfl⟩ := hv; rfl
theorem copy_new {P : Program} (w : World) (S E I : TypeId) (hu : P.underlying S = some (.slice E)) (hz : (P.info? E).map (·.size) = some 1) (A : Option Addr) (n c : Nat) (us : List Value) (D : Option Addr) (o dLen dCap : Nat) (cur : List Value)
    (hs : Sl w w.heap.size A n us) (h1 : ∀ v ∈ us, v.oneCell' = true) (hd : n ≤ dLen) (hfit : o + n ≤ cur.length) (hD : 0 < n → D = some ⟨w.heap.size, o, none⟩) :
    (Builtin.copy_ #[S, S] I #[.slice D dLen dCap, .slice A n c]).run P (w.alloc (.cells cur.toArray E)) = .ok (.int .i64 n) (w.alloc (.cells (cur.take o ++ us ++ cur.drop (o + n)).toArray E)) := by
  have hl := hs.1
  by_cases h0 : n = 0
  · subst h0
    obtain rfl : us = [] := List.eq_nil_of_length_eq_zero hl
    rw [run_copy_none _ S S I E D A dLen dCap 0 c hu hz (by simp)]
    simp [goInt]
  · obtain ⟨b, off, rfl, hb, hc⟩ := hs.2 (by omega)
    rw [hD (by omega)]
    have hr := run_copy_row (P := P) (w.alloc (.cells cur.toArray E)) S S I E w.heap.size o dLen dCap ⟨b, off, none⟩ n c cur.toArray E us hu hz (heap_alloc_new w _) (by rw [hl]; exact (Nat.min_eq_left hd).symm) (fun j v hv => by
      have := hc j v hv
      rw [World.cell?_alloc_lt _ _ _ (by rw [addr_add_block]; exact hb), ← this]
      unfold Addr.add
      split
      · rename_i h; simp [h]
      · rfl) (by simpa [hl] using hfit) h1
    rw [hr, World.setRow_alloc_new, hl]
    rfl
def Cloned (w : World) (n : Nat) (zs : List Int) (e : Ending) (w' : World) : Prop := ∃ A c, e = .returned (.slice A n c) ∧ Sl w' w'.heap.size A n (zs.map (Value.int .u8)) ∧ Below w.heap.size w w'
set_option maxHeartbeats 1000000 in
set_option maxRecDepth 100000 in
theorem clone_any (A : Option Addr) (n c : Nat) (us : List Int) (w : World) (hs : Sl w w.heap.size A n (us.map (Value.int .u8))) (hn : n ≤ big20) (hnil : A = none → n = 0 ∧ c = 0) :
    Calls Try.prog 5 #[.slice A n c] w (Cloned w n us) := by
  have h1 : us.length = n := by have := hs.1; simpa using this
  cases A with
  | none =>
    obtain ⟨rfl, rfl⟩ := hnil rfl
    have hq := fun (w : World) (a : Option Addr) (l c : Nat) => eql_nil (P := Try.prog) w 22 5 a l c Try.underlying22
    go_enter Try.func5, Try.ntmps5
    go_wp2_with fail
    go_ret
    exact ⟨_, _, rfl, hs, Below.refl _ _⟩
  | some ad =>
    clear hnil
    have hn' := big20_le hn
    obtain ⟨i0, hi, hz0, hz1, hz2⟩ := info_three info_8
    have hmk := run_make (P := Try.prog) w 22 5 i0 (.int .u8 0) Try.underlying22 hi hz0 .i64 .i64 n n (by omega) (by omega) (by rw [hz2]; omega) (by omega)
    rw [hz1, Nat.mul_one, Int.toNat_natCast, made_zeros n] at hmk
    have hc1 := copy_new (P := Try.prog) w 22 5 3 Try.underlying22 sz_8 (some ad) n c (us.map (Value.int .u8)) (some ⟨w.heap.size, 0, none⟩) 0 n n (zeros n) hs (one_u8 us) (Nat.le_refl _) (by rw [zeros_len]; omega) (fun _ => rfl)
    have e1 : (zeros n).take 0 ++ us.map (Value.int .u8) ++ (zeros n).drop (0 + n) = us.map (Value.int .u8) := by simp [zeros]
    rw [e1] at hc1
    clear hi hz0 hz1 hz2 e1
    have hnb : n ≤ 9223372036854775807 := by omega
    have hq := fun (w : World) (a : Option Addr) (l c : Nat) => eql_nil (P := Try.prog) w 22 5 a l c Try.underlying22
    have H1 := Lib.hid h1
    clear hs h1 hn hn'
    go_enter Try.func5, Try.ntmps5
    go_wp2_with fail
    go_ret
    exact ⟨_, _, rfl, by have := Sl.new w 5 (us.map (Value.int .u8)) (w.alloc (.cells (us.map (Value.int .u8)).toArray 5)).heap.size (by simp); rwa [List.length_map, H1.out] at this, (Below.refl _ _).alloc (Nat.le_refl _) _⟩

end Go.Proofs.Ytbmmmgccmkompac
