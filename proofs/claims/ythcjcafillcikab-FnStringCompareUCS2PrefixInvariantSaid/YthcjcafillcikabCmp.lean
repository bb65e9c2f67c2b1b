/-
  Lemmas shared by several laws of this seat; no statement of their own.
-/
import Derived.Test.YthcjcafillcikabRows
import Derived.WalkKit
import Derived.ProofKit
import Derived.OpenShut
import Derived.Test.YthcjcafillcikabSlW
import Derived.WalkLawsBesides
import Derived.WalkSpells
import Derived.Below
import Derived.Lib.Hide
import Derived.Outline
import Derived.LoopTactic
import Derived.Deep.QuietTactic
import Derived.BigQuiet
import Derived.IntWalk
namespace Go.Proofs.Ythcjcafillcikab
open Go.ChangeShapes Go.WideShapes Go.ChangeAt Go.RowKit

set_option linter.unusedVariables false

theorem Sl.later {w w' : World} {A : Option Addr} {n : Nat} {zs : List Value} (h : Sl w w.heap.size A n zs) (hb : Below w.heap.size w w') : Sl w' w'.heap.size A n zs := (h.below hb).more hb.size
def cmpL : List Int → List Int → Int
  | x :: xs, y :: ys => if x - y = 0 then cmpL xs ys else x - y
  | xs, ys => (xs.length : Int) - (ys.length : Int)
theorem cmpL_pre (p a b : List Int) : cmpL (p ++ a) (p ++ b) = cmpL a b := by
  induction p with
  | nil => rfl
  | cons x p ih => simp [cmpL, ih]
theorem cmpL_take (us vs : List Int) (k : Nat) (h : us.take k = vs.take k) : cmpL us vs = cmpL (us.drop k) (vs.drop k) := by
  conv => lhs; rw [← List.take_append_drop k us, ← List.take_append_drop k vs, h]
  rw [cmpL_pre]
theorem cmpL_at (us vs : List Int) (k : Nat) (x y : Int) (h : us.take k = vs.take k) (hx : us[k]? = some x) (hy : vs[k]? = some y) (hne : x - y ≠ 0) : cmpL us vs = x - y := by
  rw [cmpL_take us vs k h]
  have e1 : us.drop k = x :: us.drop (k + 1) := by
    have hl := (List.getElem?_eq_some_iff.1 hx)
    rw [List.drop_eq_getElem_cons hl.1, hl.2]
  have e2 : vs.drop k = y :: vs.drop (k + 1) := by
    have hl := (List.getElem?_eq_some_iff.1 hy)
    rw [List.drop_eq_getElem_cons hl.1, hl.2]
  rw [e1, e2]
  simp [cmpL, hne]
theorem cmpL_end (us vs : List Int) (k : Nat) (h : us.take k = vs.take k) (hk : us.length = k ∧ k ≤ vs.length ∨ vs.length = k ∧ k ≤ us.length) : cmpL us vs = (us.length : Int) - (vs.length : Int) := by
  rw [cmpL_take us vs k h]
  rcases hk with ⟨h1, h2⟩ | ⟨h1, h2⟩
  · have e : us.drop k = [] := List.drop_eq_nil_of_le (by omega)
    rw [e]
    cases hd : vs.drop k with
    | nil => have := congrArg List.length hd; simp at this; simp [cmpL]; omega
    | cons y ys => have := congrArg List.length hd; simp at this; simp [cmpL]; omega
  · have e : vs.drop k = [] := List.drop_eq_nil_of_le (by omega)
    rw [e]
    cases hd : us.drop k with
    | nil => have := congrArg List.length hd; simp at this; simp [cmpL]; omega
    | cons y ys => have := congrArg List.length hd; simp at this; simp [cmpL]; omega
set_option maxHeartbeats 1000000 in
theorem cmp_any (A B : Option Addr) (n m c d : Nat) (us vs : List Int) (w : World) (hs : Sl w w.heap.size A n (us.map (Value.int .u16))) (ht : Sl w w.heap.size B m (vs.map (Value.int .u16))) (hu : ∀ x ∈ us, 0 ≤ x ∧ x ≤ 65535) (hv : ∀ x ∈ vs, 0 ≤ x ∧ x ≤ 65535) (hn : n ≤ big20) (hm : m ≤ big20) :
    Calls Try.prog 18 #[.slice A n c, .slice B m d] w fun e w' => e = .returned (.int .i64 (cmpL us vs)) ∧ ∃ q, w' = w.drewN q := by
  have h1 : us.length = n := by have := hs.1; simpa using this
  have h2 : vs.length = m := by have := ht.1; simpa using this
  have hnb : n ≤ 9223372036854775807 := by have := big20_le hn; omega
  have hmb : m ≤ 9223372036854775807 := by have := big20_le hm; omega
  have H1 := Lib.hid h1
  have H2 := Lib.hid h2
  have HU := Lib.hid hu
  have HV := Lib.hid hv
  clear h1 h2 hu hv
  by_cases hnm : n < m
  · go_enter Try.func18, Try.ntmps18
    go_wp2_with fail
    go_loopw [6, 7] (fun i dl wr => ∃ k q : Nat, k ≤ n ∧ i = .int .i64 k ∧ us.take k = vs.take k ∧ wr = w.drewN q) (fun i _ _ => n - (intOf i).toNat)
    case atStart => exact ⟨0, 0, by omega, rfl, rfl, rfl⟩
    case round =>
      obtain ⟨k, q, hk, rfl, heq, rfl⟩ := hrel
      have HEQ := Lib.hid heq
      clear heq
      by_cases hlt : k < n
      · obtain ⟨b1, o1, u1, rfl, _, hu1, hc1⟩ := hs.at_ (k := k) (by omega)
        obtain ⟨b2, o2, u2, rfl, _, hu2, hc2⟩ := ht.at_ (k := k) (by omega)
        obtain ⟨x, hx, rfl⟩ : ∃ x, us[k]? = some x ∧ Value.int .u16 x = u1 := by simpa using hu1
        obtain ⟨y, hy, rfl⟩ : ∃ y, vs[k]? = some y ∧ Value.int .u16 y = u2 := by simpa using hu2
        obtain ⟨x0, x1⟩ := HU.out x (List.mem_of_getElem? hx)
        obtain ⟨y0, y1⟩ := HV.out y (List.mem_of_getElem? hy)
        have HX := Lib.hid hx
        have HY := Lib.hid hy
        clear hx hy hu1 hu2
        have g1 : (w.drewN q).cell? ⟨b1, o1 + k, none⟩ = some (.int .u16 x) := hc1
        have g2 : (w.drewN q).cell? ⟨b2, o2 + k, none⟩ = some (.int .u16 y) := hc2
        have l1 : ((k : Nat) : Int) < n := by omega
        have l2 : ((k : Nat) : Int) < m := by omega
        have l0 : (0 : Int) ≤ ((k : Nat) : Int) := by omega
        have t1 : IntKind.i64.wrap x = x := IntWalk.i64_in _ (by omega)
        have t2 : IntKind.i64.wrap y = y := IntWalk.i64_in _ (by omega)
        have t3 : IntKind.i64.wrap (x - y) = x - y := IntWalk.i64_in _ (by omega)
        go_wp2_with fail
        go_quiet (fail)
        clear t1 t2 t3
        cases hxy : (x - y != 0)
        · go_wp2_with fail
          go_roundw
          case rel =>
            refine ⟨k + 1, _, by omega, by go_num, ?_, rfl⟩
            rw [take_snoc' us k x HX.out, take_snoc' vs k y HY.out, HEQ.out]
            simp at hxy; rw [show x = y by omega]
          case measure => simp [intOf]; omega
        · go_wp2_with fail
          go_ret
          refine ⟨ret_int ?_, _, rfl⟩
          exact (cmpL_at us vs k x y HEQ.out HX.out HY.out (by simpa using hxy)).symm
      · obtain rfl : k = n := by omega
        go_wp2_with fail
        go_ret
        refine ⟨ret_int ?_, _, rfl⟩
        rw [cmpL_end us vs k HEQ.out (by rw [H1.out, H2.out]; omega), H1.out, H2.out]
  · go_enter Try.func18, Try.ntmps18
    go_wp2_with fail
    go_loopw [6, 7] (fun i dl wr => ∃ k q : Nat, k ≤ m ∧ i = .int .i64 k ∧ us.take k = vs.take k ∧ wr = w.drewN q) (fun i _ _ => m - (intOf i).toNat)
    case atStart => exact ⟨0, 0, by omega, rfl, rfl, rfl⟩
    case round =>
      obtain ⟨k, q, hk, rfl, heq, rfl⟩ := hrel
      have HEQ := Lib.hid heq
      clear heq
      by_cases hlt : k < m
      · obtain ⟨b1, o1, u1, rfl, _, hu1, hc1⟩ := hs.at_ (k := k) (by omega)
        obtain ⟨b2, o2, u2, rfl, _, hu2, hc2⟩ := ht.at_ (k := k) (by omega)
        obtain ⟨x, hx, rfl⟩ : ∃ x, us[k]? = some x ∧ Value.int .u16 x = u1 := by simpa using hu1
        obtain ⟨y, hy, rfl⟩ : ∃ y, vs[k]? = some y ∧ Value.int .u16 y = u2 := by simpa using hu2
        obtain ⟨x0, x1⟩ := HU.out x (List.mem_of_getElem? hx)
        obtain ⟨y0, y1⟩ := HV.out y (List.mem_of_getElem? hy)
        have HX := Lib.hid hx
        have HY := Lib.hid hy
        clear hx hy hu1 hu2
        have g1 : (w.drewN q).cell? ⟨b1, o1 + k, none⟩ = some (.int .u16 x) := hc1
        have g2 : (w.drewN q).cell? ⟨b2, o2 + k, none⟩ = some (.int .u16 y) := hc2
        have l1 : ((k : Nat) : Int) < n := by omega
        have l2 : ((k : Nat) : Int) < m := by omega
        have l0 : (0 : Int) ≤ ((k : Nat) : Int) := by omega
        have t1 : IntKind.i64.wrap x = x := IntWalk.i64_in _ (by omega)
        have t2 : IntKind.i64.wrap y = y := IntWalk.i64_in _ (by omega)
        have t3 : IntKind.i64.wrap (x - y) = x - y := IntWalk.i64_in _ (by omega)
        go_wp2_with fail
        go_quiet (fail)
        clear t1 t2 t3
        cases hxy : (x - y != 0)
        · go_wp2_with fail
          go_roundw
          case rel =>
            refine ⟨k + 1, _, by omega, by go_num, ?_, rfl⟩
            rw [take_snoc' us k x HX.out, take_snoc' vs k y HY.out, HEQ.out]
            simp at hxy; rw [show x = y by omega]
          case measure => simp [intOf]; omega
        · go_wp2_with fail
          go_ret
          refine ⟨ret_int ?_, _, rfl⟩
          exact (cmpL_at us vs k x y HEQ.out HX.out HY.out (by simpa using hxy)).symm
      · obtain rfl : k = m := by omega
        go_wp2_with fail
        go_ret
        refine ⟨ret_int ?_, _, rfl⟩
        rw [cmpL_end us vs k HEQ.out (by rw [H1.out, H2.out]; omega), H1.out, H2.out]

end Go.Proofs.Ythcjcafillcikab
