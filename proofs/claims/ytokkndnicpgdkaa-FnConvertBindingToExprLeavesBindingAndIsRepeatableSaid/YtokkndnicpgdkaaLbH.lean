/-
  The parser on whatever stands at its place; two equal rows of words; no statement of its own.
-/
import Derived.Test.YtokkndnicpgdkaaRows
import Derived.WalkKit
import Derived.ProofKit
import Derived.OpenShut
import Derived.Test.YtokkndnicpgdkaaSlW
import Derived.Test.YtokkndnicpgdkaaCbW
import Derived.Test.YtokkndnicpgdkaaLbA
import Derived.Test.YtokkndnicpgdkaaLbR
import Derived.Test.YtokkndnicpgdkaaLbE
import Derived.Test.YtokkndnicpgdkaaLbB
import Derived.Test.YtokkndnicpgdkaaLbK
import Derived.Test.YtokkndnicpgdkaaLbJ
import Derived.Test.YtokkndnicpgdkaaLbC
import Derived.Test.YtokkndnicpgdkaaLbD
import Derived.Test.YtokkndnicpgdkaaLbO
import Derived.Test.YtokkndnicpgdkaaLbP
import Derived.Test.YtokkndnicpgdkaaLbQ
import Derived.Test.YtokkndnicpgdkaaLbS
import Derived.Test.YtokkndnicpgdkaaLbF
import Derived.Test.YtokkndnicpgdkaaLbG
import Derived.Test.YtokkndnicpgdkaaLbT
import Derived.Test.YtokkndnicpgdkaaLbU
import Derived.Test.YtokkndnicpgdkaaLbM
import Derived.Test.YtokkndnicpgdkaaLbN
import Derived.Test.YtokkndnicpgdkaaLbX
import Derived.Test.YtokkndnicpgdkaaLbI
import Derived.Test.YtokkndnicpgdkaaLbW
import Derived.WalkLawsBesides
import Derived.WalkSpells
import Derived.Below
import Derived.Lib.Hide
import Derived.Outline
import Derived.OwnWalk
import Derived.Laws.OwnMore
import Derived.LoopTactic
import Derived.Deep.QuietTactic
import Derived.BigQuiet
namespace Go.Proofs.Ytokkndnicpgdkaa
open Go.ChangeShapes Go.WideShapes Go.ChangeAt Go.RowKit

set_option linter.unusedVariables false

theorem flA_mono (F : Nat → List Nat) : ∀ n k, k < n → (flA F k).length + 2 + (F k).length ≤ (flA F n).length := by
  intro n
  induction n with
  | zero => intro k hk; omega
  | succ n ih =>
    intro k hk
    rw [flA_up, List.length_append]
    simp only [List.length_cons]
    rcases Nat.lt_or_ge k n with h | h
    · have := ih k h; omega
    · obtain rfl : k = n := by omega
      omega
theorem arr_ok : ArrOk := fun lo hi w q l n0 K sp sg its a1 a2 a3 a4 a5 a6 a7 a8 a9 a10 a11 => by
  refine ⟨arr_ok0 ser_arr_ok lo hi w q l n0 K sp sg its a1 a2 a3 a4 a5 a6 a7 a8 a9 a10 a11, serb_arr lo hi w q l n0 K sp sg its a1 a3 a4 a5 a6 a7 a8 a9 a10 a11, ?_⟩
  have hF : ∀ i : Nat, ∃ fs : List Nat, ∀ x : Kd, its[i]? = some x → fs.length + 2 ≤ 16 * x.ws.length ∧ Full x.lo x.hi w x.d x.l fs := by
    intro i
    cases h : its[i]? with
    | none => exact ⟨[], fun x hx => by cases hx⟩
    | some x =>
      obtain ⟨fs, h1, h2⟩ := (a10 i x h).2.2.2.2.2
      exact ⟨fs, fun y hy => by obtain rfl := Option.some.inj hy; exact ⟨h1, h2⟩⟩
  refine ⟨l :: 2 :: n0 :: b01 sp :: b01 sg :: flA (fun i => (hF i).choose) n0, ?_, full_arr lo hi w q l n0 K sp sg its _ a1 a3 a4 a5 a6 a7 a8 a9 ?_ (fun k hk => flA_mono _ n0 k hk)⟩
  · have h1 := flA_len (fun i => (hF i).choose) its (fun i x hx => ((hF i).choose_spec x hx).1) n0 (by omega)
    rw [← a3, List.take_length] at h1
    simp only [List.length_cons]
    rw [← a3]
    omega
  · intro i x hx
    have h1 := ws_le its i x hx
    have h2 := (a10 i x hx).1
    exact ⟨(a10 i x hx).2.1, (a10 i x hx).2.2.1, by omega, ((hF i).choose_spec x hx).2⟩
theorem obj_ok : ObjOk := fun lo hi w q l n0 K sg its a1 a2 a3 a4 a5 a6 a7 a8 a9 a10 => by
  refine ⟨obj_ok0 ser_obj_ok lo hi w q l n0 K sg its a1 a2 a3 a4 a5 a6 a7 a8 a9 a10, serb_obj lo hi w q l n0 K sg its a1 a2 a3 a4 a5 a6 a7 a8 a9 a10, ?_⟩
  have hF : ∀ i : Nat, ∃ fs : List Nat, ∀ x : Ko, its[i]? = some x → fs.length + 2 ≤ 16 * x.ws.length ∧ Full x.lo x.hi w x.d x.l fs := by
    intro i
    cases h : its[i]? with
    | none => exact ⟨[], fun x hx => by cases hx⟩
    | some x =>
      obtain ⟨fs, h1, h2⟩ := (a9 i x h).2.2.2
      exact ⟨fs, fun y hy => by obtain rfl := Option.some.inj hy; exact ⟨h1, h2⟩⟩
  refine ⟨l :: 3 :: n0 :: b01 sg :: flO its (fun i => (hF i).choose) n0, ?_, full_obj lo hi w q l n0 K sg its _ a1 a2 a3 a4 a5 a6 a7 a8 (fun i it hit => (a9 i it hit).1) (fun i it hit => ((hF i).choose_spec it hit).2) a10⟩
  have h1 := flO_len (fun i => (hF i).choose) its (fun i x hx => ((hF i).choose_spec x hx).1) n0 (by omega)
  rw [← a2, List.take_length] at h1
  simp only [List.length_cons]
  rw [← a2]
  omega
theorem parse_self (n c B : Nat) (A : Option Addr) (toks : List Nat) (hz : ∀ t ∈ toks, t < 4294967296) (hpb : n ≤ 100000) : ∀ F, Self n A c B toks F := by
  intro F
  induction F with
  | zero =>
    intro P pos cs w hF hpn hs ht hl
    exact parse_end P B n c pos A cs w hs (by omega) (by omega) (by omega)
  | succ F ih =>
    intro P pos cs w hF hpn hs ht hl
    by_cases hp : pos < n
    · have h4 : toks.getD pos 0 % 4 = 0 ∨ toks.getD pos 0 % 4 = 1 ∨ toks.getD pos 0 % 4 = 2 ∨ toks.getD pos 0 % 4 = 3 := by omega
      rcases h4 with h | h | h | h
      · exact parse_missing P B n c pos A toks cs w hs hp ht hz h hpb (by omega)
      · exact parse_ident P B n c pos A toks cs w hs hp ht hz h hpb (by omega)
      · exact parse_array P B n c pos F A toks cs w hs hp ht hz h arr_ok ih hF hpb hl
      · exact parse_object P B n c pos F A toks cs w hs hp ht hz h obj_ok ih hF hpb hl
    · exact parse_end P B n c pos A cs w hs (by omega) (by omega) (by omega)
/-- A row of the call's own, read as a slice. -/
theorem sl_own {w : World} {B n : Nat} {e : TypeId} {a : Option Addr} {l c : Nat} {xs : List Value} (h : w.ownsRow B e 1 (.slice a l c) n xs) (hx : xs.length = n) : Sl w w.heap.size a l xs := by
  obtain ⟨rfl, h0⟩ := slice_own h
  refine ⟨hx, fun hn => ?_⟩
  obtain ⟨g, k, he⟩ := own_form h hn
  simp only [Value.slice.injEq] at he
  obtain ⟨rfl, -, -⟩ := he
  refine ⟨g, 0, rfl, ?_, fun j u hu => ?_⟩
  · rcases h.2 with ⟨h1, _⟩ | ⟨g', cap, cur, h1, _, hg, _⟩
    · simp at h1
    · simp at h1; obtain ⟨rfl, -⟩ := h1; exact heap_lt hg
  · have hj : j < n := by rw [← hx]; exact (List.getElem?_eq_some_iff.1 hu).1
    rw [Nat.zero_add, h.cellAt j (by omega), hu]
set_option maxHeartbeats 1000000 in
theorem eq_words (A A' : Option Addr) (n c c' : Nat) (us : List Nat) (w : World) (hs : Sl w w.heap.size A n (words us)) (ht : Sl w w.heap.size A' n (words us)) (hn : n ≤ 1000000) :
    Calls Try.prog 10 #[.slice A n c, .slice A' n c'] w fun e w' => e = .returned (.bool true) ∧ ∃ q, w' = w.drewN q := by
  have hnb : n ≤ 9223372036854775807 := by omega
  go_enter Try.func10, Try.ntmps10
  go_wp2_with fail
  go_loopw [5] (fun i wr => ∃ k q : Nat, k ≤ n ∧ i = .int .i64 k ∧ wr = w.drewN q) (fun i _ => n - (intOf i).toNat)
  case atStart => exact ⟨0, 0, by omega, rfl, rfl⟩
  case round =>
    obtain ⟨k, q, hk, rfl, rfl⟩ := hrel
    by_cases hlt : k < n
    · obtain ⟨b1, o1, u1, rfl, _, hu1, hc1⟩ := hs.at_ hlt
      obtain ⟨b2, o2, u2, rfl, _, hu2, hc2⟩ := ht.at_ hlt
      obtain rfl : u1 = u2 := by rw [hu1] at hu2; exact Option.some.inj hu2
      obtain ⟨x, hx, rfl⟩ : ∃ x : Nat, us[k]? = some x ∧ Value.int .u32 (x : Int) = u1 := by simpa [words] using hu1
      have HX := Lib.hid hx
      clear hx hu1 hu2
      have g1 : (w.drewN q).cell? ⟨b1, o1 + k, none⟩ = some (.int .u32 (x : Int)) := hc1
      have g2 : (w.drewN q).cell? ⟨b2, o2 + k, none⟩ = some (.int .u32 (x : Int)) := hc2
      have l1 : ((k : Nat) : Int) < n := by omega
      have l0 : (0 : Int) ≤ ((k : Nat) : Int) := by omega
      go_wp2_with fail
      go_quiet (fail)
      go_wp2_with fail
      go_roundw
      case rel => exact ⟨k + 1, _, by omega, by go_num, rfl⟩
      case measure => simp [intOf]; omega
    · go_wp2_with fail
      go_ret
      exact ⟨rfl, q, rfl⟩
set_option maxHeartbeats 1000000 in
theorem eq_nums (A A' : Option Addr) (n c c' : Nat) (us : List Nat) (w : World) (hs : Sl w w.heap.size A n (nums us)) (ht : Sl w w.heap.size A' n (nums us)) (hn : n ≤ 20000000) :
    Calls Try.prog 11 #[.slice A n c, .slice A' n c'] w fun e w' => e = .returned (.bool true) ∧ ∃ q, w' = w.drewN q := by
  have hnb : n ≤ 9223372036854775807 := by omega
  go_enter Try.func11, Try.ntmps11
  go_wp2_with fail
  go_loopw [5] (fun i wr => ∃ k q : Nat, k ≤ n ∧ i = .int .i64 k ∧ wr = w.drewN q) (fun i _ => n - (intOf i).toNat)
  case atStart => exact ⟨0, 0, by omega, rfl, rfl⟩
  case round =>
    obtain ⟨k, q, hk, rfl, rfl⟩ := hrel
    by_cases hlt : k < n
    · obtain ⟨b1, o1, u1, rfl, _, hu1, hc1⟩ := hs.at_ hlt
      obtain ⟨b2, o2, u2, rfl, _, hu2, hc2⟩ := ht.at_ hlt
      obtain rfl : u1 = u2 := by rw [hu1] at hu2; exact Option.some.inj hu2
      obtain ⟨x, hx, rfl⟩ : ∃ x : Nat, us[k]? = some x ∧ Value.int .i64 (x : Int) = u1 := by simpa [nums] using hu1
      have HX := Lib.hid hx
      clear hx hu1 hu2
      have g1 : (w.drewN q).cell? ⟨b1, o1 + k, none⟩ = some (.int .i64 (x : Int)) := hc1
      have g2 : (w.drewN q).cell? ⟨b2, o2 + k, none⟩ = some (.int .i64 (x : Int)) := hc2
      have l1 : ((k : Nat) : Int) < n := by omega
      have l0 : (0 : Int) ≤ ((k : Nat) : Int) := by omega
      go_wp2_with fail
      go_quiet (fail)
      go_wp2_with fail
      go_roundw
      case rel => exact ⟨k + 1, _, by omega, by go_num, rfl⟩
      case measure => simp [intOf]; omega
    · go_wp2_with fail
      go_ret
      exact ⟨rfl, q, rfl⟩

end Go.Proofs.Ytokkndnicpgdkaa
