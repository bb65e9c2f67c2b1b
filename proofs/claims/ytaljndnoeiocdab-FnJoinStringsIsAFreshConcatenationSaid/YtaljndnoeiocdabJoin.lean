/-
  Lemmas shared by several laws of this seat; no statement of their own.
-/
import Derived.Test.YtaljndnoeiocdabRows
import Derived.WalkKit
import Derived.ProofKit
import Derived.OpenShut
import Derived.Test.YtaljndnoeiocdabSlW
import Derived.WalkLawsBesides
import Derived.WalkSpells
import Derived.Below
import Derived.Lib.Hide
import Derived.Outline
import Derived.Laws.MakeOwn
import Derived.Laws.CopyOwn
import Derived.OwnWalk
import Derived.Laws.CopyRow
import Derived.Laws.IdiomCopy
import Derived.Deep.WholeRow
namespace Go.Proofs.Ytaljndnoeiocdab
open Go.ChangeShapes Go.WideShapes Go.ChangeAt Go.RowKit

set_option linter.unusedVariables false

theorem info_j : (Try.prog.info? 43).map (fun i => (i.zero, i.size, i.bytes)) = some (some (.int .u16 0), 1, 2) := by kernel_rfl
theorem sz_j : (Try.prog.info? 43).map (·.size) = some 1 := by kernel_rfl
def zeros (n : Nat) : List Value := List.replicate n (.int .u16 0)
theorem zeros_len (n : Nat) : (zeros n).length = n := by simp [zeros]
theorem made_zeros (n : Nat) : madeCells (Value.int .u16 0).cells n = (zeros n).toArray := by
  unfold madeCells zeros
  apply Array.ext
  · simp
  · intro i h1 h2
    simp [Value.cells, Nat.mod_one]
theorem one_u16 (us : List Int) : ∀ v ∈ us.map (Value.int .u16), v.oneCell' = true := by
  intro v hv; simp at hv; obtain ⟨a, _, rfl⟩ := hv; rfl
theorem copy_new {P : Program} (w : World) (S E I : TypeId) (hu : P.underlying S = some (.slice E)) (hz : (P.info? E).map (·.size) = some 1) (A : Option Addr) (n c : Nat) (us : List Value) (D : Option Addr) (o dLen dCap : Nat) (cur : List Value)
    (hs : Sl w w.heap.size A n us) (h1 : ∀ v ∈ us, v.oneCell' = true) (hd : n ≤ dLen) (hfit : o + n ≤ cur.length) (hD : 0 < n → D = some ⟨w.heap.size, o, none⟩) :
    (Builtin.copy_ #[S, S] I #[.slice D dLen dCap, .slice A n c]).run P (w.alloc (.cells cur.toArray E)) = .ok (.int .i64 n) (w.alloc (.cells (cur.take o ++ us ++ cur.drop (o + n)).toArray E)) := by
  have hl := hs.1
  by_cases h0 : n = 0
  · subst h0
    obtain rfl : us = [] := List.eq_nil_of_length_eq_zero hl
    rw [run_copy_none _ S S I E D A dLen dCap 0 c hu hz (by simp)]
    simp [goInt]
  · obtain ⟨b, off, rfl, hb, hc⟩ := hs.2 (by omega)
    rw [hD (by omega)]
    have hr := run_copy_row (P := P) (w.alloc (.cells cur.toArray E)) S S I E w.heap.size o dLen dCap ⟨b, off, none⟩ n c cur.toArray E us hu hz (heap_alloc_new w _) (by rw [hl]; exact (Nat.min_eq_left hd).symm) (fun j v hv => by
      have := hc j v hv
      rw [World.cell?_alloc_lt _ _ _ (by rw [addr_add_block]; exact hb), ← this]
      unfold Addr.add
      split
      · rename_i h; simp [h]
      · rfl) (by simpa [hl] using hfit) h1
    rw [hr, World.setRow_alloc_new, hl]
    rfl
/-- joinStrings: a new block that holds us followed by vs. -/
def Joined (w : World) (n m : Nat) (us vs : List Int) (e : Ending) (w' : World) : Prop :=
  e = .returned (.slice (some ⟨w.heap.size, 0, none⟩) (n + m) (n + m)) ∧ w' = w.alloc (.cells ((us ++ vs).map (Value.int .u16)).toArray 43)
def half (us : List Int) (m : Nat) : List Value := us.map (Value.int .u16) ++ zeros m
theorem half_len (us : List Int) (m : Nat) : (half us m).length = us.length + m := by simp [half, zeros_len]
theorem first_half (us : List Int) (n m : Nat) (h : us.length = n) : (zeros (n + m)).take 0 ++ us.map (Value.int .u16) ++ (zeros (n + m)).drop (0 + n) = half us m := by
  unfold half zeros; simp
theorem second_half (us vs : List Int) (n m : Nat) (h : us.length = n) (h' : vs.length = m) : (half us m).take n ++ vs.map (Value.int .u16) ++ (half us m).drop (n + m) = (us ++ vs).map (Value.int .u16) := by
  unfold half
  rw [List.take_left' (by simp [h]), List.drop_eq_nil_of_le (by simp [h, zeros_len])]
  simp
set_option maxHeartbeats 1000000 in
set_option maxRecDepth 100000 in
theorem join_any (A B : Option Addr) (n m c d : Nat) (us vs : List Int) (w : World) (hs : Sl w w.heap.size A n (us.map (Value.int .u16))) (ht : Sl w w.heap.size B m (vs.map (Value.int .u16))) (hn : n ≤ big20) (hm : m ≤ big20) :
    Calls Try.prog 18 #[.slice A n c, .slice B m d] w (Joined w n m us vs) := by
  have h1 : us.length = n := by have := hs.1; simpa using this
  have h2 : vs.length = m := by have := ht.1; simpa using this
  have hn' := big20_le hn
  have hm' := big20_le hm
  obtain ⟨i0, hi, hz0, hz1, hz2⟩ := info_three info_j
  have hmk := run_make (P := Try.prog) w 38 43 i0 (.int .u16 0) Try.underlying38 hi hz0 .i64 .i64 (n + m : Int) (n + m : Int) (by omega) (by omega) (by rw [hz2]; omega) (by omega)
  have et : ((n : Int) + m).toNat = n + m := by omega
  rw [hz1, Nat.mul_one, et, made_zeros (n + m)] at hmk
  have hc1 := copy_new (P := Try.prog) w 38 43 3 Try.underlying38 sz_j A n c (us.map (Value.int .u16)) (some ⟨w.heap.size, 0, none⟩) 0 n (n + m) (zeros (n + m)) hs (one_u16 us) (Nat.le_refl _) (by rw [zeros_len]; omega) (fun _ => rfl)
  rw [first_half us n m h1] at hc1
  clear hi hz0 hz1 hz2 et
  have hnb : n ≤ 9223372036854775807 := by omega
  have hnm : n + m ≤ 9223372036854775807 := by omega
  have hmb : m ≤ 9223372036854775807 := by omega
  clear hn' hm'
  have H1 := Lib.hid h1
  have H2 := Lib.hid h2
  clear h1 h2
  by_cases hm0 : m = 0
  · subst hm0
    have hc2 := copy_new (P := Try.prog) w 38 43 3 Try.underlying38 sz_j B 0 d (vs.map (Value.int .u16)) (some ⟨w.heap.size, 0, none⟩) n 0 0 (half us 0) ht (one_u16 vs) (Nat.le_refl _) (by rw [half_len, H1.out]; omega) (fun h => absurd h (by omega))
    rw [second_half us vs n 0 H1.out H2.out] at hc2
    simp only [Nat.add_zero, Int.natCast_zero, Int.add_zero] at hmk hc1 hc2
    have hres : Joined w n 0 us vs = fun e w' => Joined w n 0 us vs e w' := rfl
    go_enter Try.func18, Try.ntmps18
    go_wp2_with fail
    go_ret
    exact ⟨rfl, by rw [List.map_append]⟩
  · have hc2 := copy_new (P := Try.prog) w 38 43 3 Try.underlying38 sz_j B m d (vs.map (Value.int .u16)) (some ⟨w.heap.size, n, none⟩) n m m (half us m) ht (one_u16 vs) (Nat.le_refl _) (by rw [half_len, H1.out]; omega) (fun _ => rfl)
    rw [second_half us vs n m H1.out H2.out] at hc2
    go_enter Try.func18, Try.ntmps18
    go_wp2_with fail
    go_ret
    exact ⟨rfl, by rw [List.map_append]⟩
def Made (w : World) (n : Nat) (us : List Int) (e : Ending) (w' : World) : Prop := ∃ A c, e = .returned (.slice A n c) ∧ Sl w' w'.heap.size A n (us.map (Value.int .u16)) ∧ Below w.heap.size w w'
theorem Sl.later {w w' : World} {A : Option Addr} {n : Nat} {zs : List Value} (h : Sl w w.heap.size A n zs) (hb : Below w.heap.size w w') : Sl w' w'.heap.size A n zs := (h.below hb).more hb.size
set_option maxRecDepth 100000 in
theorem zzjoin_any (A B : Option Addr) (n m c d : Nat) (us vs : List Int) (w : World) (hs : Sl w w.heap.size A n (us.map (Value.int .u16))) (ht : Sl w w.heap.size B m (vs.map (Value.int .u16))) (hn : n ≤ big20) (hm : m ≤ big20) :
    Calls Try.prog 10 #[.slice A n c, .slice B m d] w (Joined w n m us vs) := by
  have J := Lib.hid (join_any A B n m c d us vs w hs ht hn hm)
  go_enter Try.func10, Try.ntmps10
  go_wp2_with fail
  refine J.out.mono ?_
  rintro e w1 ⟨rfl, rfl⟩
  go_wp2_with fail
  go_ret
  exact ⟨rfl, by rw [List.map_append]⟩
theorem joined_made (A B : Option Addr) (n m c d : Nat) (us vs : List Int) (w : World) (hs : Sl w w.heap.size A n (us.map (Value.int .u16))) (ht : Sl w w.heap.size B m (vs.map (Value.int .u16))) (hn : n ≤ big20) (hm : m ≤ big20) :
    Calls Try.prog 10 #[.slice A n c, .slice B m d] w (Made w (n + m) (us ++ vs)) :=
  (zzjoin_any A B n m c d us vs w hs ht hn hm).mono fun e w' ⟨h1, h2⟩ => by
    have e1 : (us ++ vs).length = n + m := by have a := hs.1; have b := ht.1; simp at a b; simp [a, b]
    subst h2
    have := Sl.new w 43 ((us ++ vs).map (Value.int .u16)) (w.alloc (.cells ((us ++ vs).map (Value.int .u16)).toArray 43)).heap.size (by simp)
    rw [List.length_map, e1] at this
    exact ⟨_, _, h1, this, (Below.refl _ _).alloc (Nat.le_refl _) _⟩

end Go.Proofs.Ytaljndnoeiocdab
