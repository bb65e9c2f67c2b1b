/-
  Lemmas shared by several laws of this seat; no statement of their own.
-/
import Derived.Test.YtdjiekejkjgamadRows
import Derived.WalkKit
import Derived.ProofKit
import Derived.OpenShut
import Derived.Test.YtdjiekejkjgamadSlW
import Derived.Test.YtdjiekejkjgamadFltM
import Derived.Test.YtdjiekejkjgamadFltW
import Derived.Test.YtdjiekejkjgamadFltX
import Derived.Test.YtdjiekejkjgamadFltY
import Derived.Test.YtdjiekejkjgamadFltZ
import Derived.Test.YtdjiekejkjgamadFltL
import Derived.Test.YtdjiekejkjgamadSfE
import Derived.Test.YtdjiekejkjgamadSfN
import Derived.Test.YtdjiekejkjgamadSfT
import Derived.Test.YtdjiekejkjgamadSfS
import Derived.Test.YtdjiekejkjgamadSfL
import Derived.Test.YtdjiekejkjgamadSfM
import Derived.Test.YtdjiekejkjgamadSfF
import Derived.Test.YtdjiekejkjgamadSfA
import Derived.Test.YtdjiekejkjgamadSfB
import Derived.Test.YtdjiekejkjgamadSfP
import Derived.Test.YtdjiekejkjgamadSfH
import Derived.Test.YtdjiekejkjgamadSfI
import Derived.WalkLawsBesides
import Derived.Below
import Derived.Lib.Hide
import Derived.Outline
namespace Go.Proofs.Ytdjiekejkjgamad
open Go.ChangeShapes Go.WideShapes Go.ChangeAt Go.RowKit

set_option linter.unusedVariables false

/-- The function's answer at every two leaves of the kinds and the values told. -/
def FoldIs (k : Int) (p m : Bool) (x y : Nat) (a : Bool) : Prop := ∀ (b l l' : Nat) (d d' : Value) (w : World), BinAt w b d d' k → b < w.heap.size → Leaf w l d p x → Leaf w l' d' m y → Calls Try.prog 8 #[.pointer (some ⟨b, 0, none⟩)] w (Fo a w)
def Agree (k : Int) (p m : Bool) (x y : Nat) : Prop := ∃ a c, (∀ w, Calls Try.prog 5 #[.int .u8 k, .bool p, .float .f64 x, .bool m, .float .f64 y] w (Res a c w)) ∧ (c = true → FoldIs k p m x y a)
theorem ag26 (p m : Bool) (x y : Nat) : Agree 26 p m x y := ⟨true, true, fun w => mod26 p m x y w, fun _ b l l' d d' w h hb g g' => fold26 b d d' w h⟩
theorem ag27 (p m : Bool) (x y : Nat) : Agree 27 p m x y := ⟨true, true, fun w => mod27 p m x y w, fun _ b l l' d d' w h hb g g' => fold27 b d d' w h⟩
theorem ag28 (p m : Bool) (x y : Nat) : Agree 28 p m x y := ⟨true, true, fun w => mod28 p m x y w, fun _ b l l' d d' w h hb g g' => fold28 b d d' w h⟩
theorem ag29 (p m : Bool) (x y : Nat) : Agree 29 p m x y := ⟨true, true, fun w => mod29 p m x y w, fun _ b l l' d d' w h hb g g' => fold29 b d d' w h⟩
theorem ag24 (p m : Bool) (x y : Nat) : Agree 24 p m x y := ⟨true, true, fun w => mod24 p m x y w, fun _ b l l' d d' w h hb g g' => fold24 b d d' w h⟩
theorem ag34 (p m : Bool) (x y : Nat) : Agree 34 p m x y := ⟨true, true, fun w => mod34 p m x y w, fun _ b l l' d d' w h hb g g' => fold34 b d d' w h⟩
theorem ag33 (p m : Bool) (x y : Nat) : Agree 33 p m x y := ⟨true, true, fun w => mod33 p m x y w, fun _ b l l' d d' w h hb g g' => fold33 b d d' w h⟩
theorem ag35 (p m : Bool) (x y : Nat) : Agree 35 p m x y := ⟨true, true, fun w => mod35 p m x y w, fun _ b l l' d d' w h hb g g' => fold35 b d d' w h⟩
theorem ag17 (p m : Bool) (x y : Nat) : Agree 17 p m x y := ⟨true, true, fun w => mod17 p m x y w, fun _ b l l' d d' w h hb g g' => fold17 b d d' w h⟩
theorem ag19 (p m : Bool) (x y : Nat) : Agree 19 p m x y := ⟨true, true, fun w => mod19 p m x y w, fun _ b l l' d d' w h hb g g' => fold19 b d d' w h⟩
theorem ag18 (p m : Bool) (x y : Nat) : Agree 18 p m x y := ⟨true, true, fun w => mod18 p m x y w, fun _ b l l' d d' w h hb g g' => fold18 b d d' w h⟩
theorem ag20 (p m : Bool) (x y : Nat) : Agree 20 p m x y := ⟨true, true, fun w => mod20 p m x y w, fun _ b l l' d d' w h hb g g' => fold20 b d d' w h⟩
theorem ag30 (p m : Bool) (x y : Nat) : Agree 30 p m x y := ⟨true, true, fun w => mod30 p m x y w, fun _ b l l' d d' w h hb g g' => fold30 b d d' w h l l' x y p m g g'⟩
theorem ag31 (p m : Bool) (x y : Nat) : Agree 31 p m x y := ⟨true, true, fun w => mod31 p m x y w, fun _ b l l' d d' w h hb g g' => fold31 b d d' w h l l' x y p m g g'⟩
theorem ag32 (p m : Bool) (x y : Nat) : Agree 32 p m x y := ⟨true, true, fun w => mod32 p m x y w, fun _ b l l' d d' w h hb g g' => fold32 b d d' w h l l' x y p m g g'⟩
theorem ag11 (p m : Bool) (s t : Bool) (r q : Nat) (hr : r < 9223372036854775808) (hq : q < 9223372036854775808) : Agree 11 p m (wd s r) (wd t q) := by
  refine ⟨if !p && !m then sm 4751297606873776128 r && sm 4751297606873776128 q else p && m, true, fun w => mod11 p m _ _ w _ _ (small_any s r 4751297606873776128 w hr (by omega)) (small_any t q 4751297606873776128 w hq (by omega)), fun _ b l l' d d' w h hb g g' => ?_⟩
  cases hn : (!p && !m)
  · rw [if_neg (by simp)]
    exact fold11n b l l' d d' p m _ _ w h hb g g' hn
  · rw [if_pos rfl]
    obtain ⟨rfl, rfl⟩ : p = false ∧ m = false := by cases p <;> cases m <;> simp_all
    exact fold11 b l l' d d' s t r q w h hb g g' hr hq
theorem ag12 (p m : Bool) (s t : Bool) (r q : Nat) (hr : r < 9223372036854775808) (hq : q < 9223372036854775808) : Agree 12 p m (wd s r) (wd t q) := by
  refine ⟨if !p && !m then sm 4751297606873776128 r && sm 4751297606873776128 q else false, true, fun w => mod12 p m _ _ w _ _ (small_any s r 4751297606873776128 w hr (by omega)) (small_any t q 4751297606873776128 w hq (by omega)), fun _ b l l' d d' w h hb g g' => ?_⟩
  cases hn : (!p && !m)
  · rw [if_neg (by simp)]
    exact fold12n b l l' d d' p m _ _ w h hb g g' hn
  · rw [if_pos rfl]
    obtain ⟨rfl, rfl⟩ : p = false ∧ m = false := by cases p <;> cases m <;> simp_all
    exact fold12 b l l' d d' s t r q w h hb g g' hr hq
theorem ag13 (p m : Bool) (s t : Bool) (r q : Nat) (hr : r < 9223372036854775808) (hq : q < 9223372036854775808) : Agree 13 p m (wd s r) (wd t q) := by
  refine ⟨if !p && !m then sm 4643176031446892544 r && sm 4643176031446892544 q else false, true, fun w => mod13 p m _ _ w _ _ (small_any s r 4643176031446892544 w hr (by omega)) (small_any t q 4643176031446892544 w hq (by omega)), fun _ b l l' d d' w h hb g g' => ?_⟩
  cases hn : (!p && !m)
  · rw [if_neg (by simp)]
    exact fold13n b l l' d d' p m _ _ w h hb g g' hn
  · rw [if_pos rfl]
    obtain ⟨rfl, rfl⟩ : p = false ∧ m = false := by cases p <;> cases m <;> simp_all
    exact fold13 b l l' d d' s t r q w h hb g g' hr hq
theorem ag14 (p m : Bool) (x y : Nat) : Agree 14 p m x y := by
  refine ⟨!p && !m && (FloatKind.f64.format.order y 0 == some .eq), true, fun w => mod14 p m x y w, fun _ b l l' d d' w h hb g g' => ?_⟩
  cases hn : (!p && !m)
  · exact fold14n b l l' d d' p m _ _ w h hb g g' hn
  · obtain ⟨rfl, rfl⟩ : p = false ∧ m = false := by cases p <;> cases m <;> simp_all
    exact fold14 b l l' d d' _ _ w h hb g g'
theorem ag23 (p m : Bool) (s t : Bool) (r q : Nat) (hr : r < 9223372036854775808) (hq : q < 9223372036854775808) : Agree 23 p m (wd s r) (wd t q) := by
  cases hn : (!p && !m)
  · exact ⟨false, true, fun w => mod23n p m _ _ w hn, fun _ b l l' d d' w h hb g g' => fold23n b l l' d d' p m _ _ w h hb g g' hn⟩
  · obtain ⟨rfl, rfl⟩ : p = false ∧ m = false := by cases p <;> cases m <;> simp_all
    refine ⟨_, _, fun w => mod23 _ _ w _ _ _ _ (small_any s r 4621256167635550208 w hr (by omega)) (small_any t q 4621256167635550208 w hq (by omega)) rfl rfl, fun hc b l l' d d' w h hb g g' => ?_⟩
    rw [hc]
    simp only [Bool.and_eq_true] at hc
    obtain ⟨⟨⟨h1, h2⟩, h3⟩, h4⟩ := hc
    obtain ⟨i, hi, rfl⟩ := dig r h1
    obtain ⟨j, hj, rfl⟩ := dig q h3
    have e1 := ge_pos s _ (dw_fin i hi) h2
    have e2 := ge_pos t _ (dw_fin j hj) h4
    exact fold23 b l l' d d' _ _ i j w h hb g g' hi hj (cnt_dw s i hi e1) (cnt_dw t j hj e2) (i32_dw s i hi e1) (u32_dw t j hj e2) (by rw [wrap_ij i j hi hj]; exact few_shl i j hi hj)
theorem ag25 (p m : Bool) (s t : Bool) (r q : Nat) (hr : r < 9223372036854775808) (hq : q < 9223372036854775808) : Agree 25 p m (wd s r) (wd t q) := by
  cases hn : (!p && !m)
  · exact ⟨false, true, fun w => mod25n p m _ _ w hn, fun _ b l l' d d' w h hb g g' => fold25n b l l' d d' p m _ _ w h hb g g' hn⟩
  · obtain ⟨rfl, rfl⟩ : p = false ∧ m = false := by cases p <;> cases m <;> simp_all
    refine ⟨_, _, fun w => mod25 _ _ w _ _ _ _ (small_any s r 4621256167635550208 w hr (by omega)) (small_any t q 4621256167635550208 w hq (by omega)) rfl rfl, fun hc b l l' d d' w h hb g g' => ?_⟩
    rw [hc]
    simp only [Bool.and_eq_true] at hc
    obtain ⟨⟨⟨h1, h2⟩, h3⟩, h4⟩ := hc
    obtain ⟨i, hi, rfl⟩ := dig r h1
    obtain ⟨j, hj, rfl⟩ := dig q h3
    have e1 := ge_pos s _ (dw_fin i hi) h2
    have e2 := ge_pos t _ (dw_fin j hj) h4
    exact fold25 b l l' d d' _ _ i j w h hb g g' hi hj (cnt_dw s i hi e1) (cnt_dw t j hj e2) (u32_dw s i hi e1) (u32_dw t j hj e2) (by rw [div_ij i j]; exact few_shr i j hi)
theorem agree_any (k : Int) (p m : Bool) (s t : Bool) (r q : Nat) (hr : r < 9223372036854775808) (hq : q < 9223372036854775808) : Agree k p m (wd s r) (wd t q) := by
  by_cases h26 : k = 26
  · subst h26; exact ag26 p m _ _
  by_cases h27 : k = 27
  · subst h27; exact ag27 p m _ _
  by_cases h28 : k = 28
  · subst h28; exact ag28 p m _ _
  by_cases h29 : k = 29
  · subst h29; exact ag29 p m _ _
  by_cases h24 : k = 24
  · subst h24; exact ag24 p m _ _
  by_cases h34 : k = 34
  · subst h34; exact ag34 p m _ _
  by_cases h33 : k = 33
  · subst h33; exact ag33 p m _ _
  by_cases h35 : k = 35
  · subst h35; exact ag35 p m _ _
  by_cases h17 : k = 17
  · subst h17; exact ag17 p m _ _
  by_cases h19 : k = 19
  · subst h19; exact ag19 p m _ _
  by_cases h18 : k = 18
  · subst h18; exact ag18 p m _ _
  by_cases h20 : k = 20
  · subst h20; exact ag20 p m _ _
  by_cases h30 : k = 30
  · subst h30; exact ag30 p m _ _
  by_cases h31 : k = 31
  · subst h31; exact ag31 p m _ _
  by_cases h32 : k = 32
  · subst h32; exact ag32 p m _ _
  by_cases h11 : k = 11
  · subst h11; exact ag11 p m s t r q hr hq
  by_cases h12 : k = 12
  · subst h12; exact ag12 p m s t r q hr hq
  by_cases h13 : k = 13
  · subst h13; exact ag13 p m s t r q hr hq
  by_cases h14 : k = 14
  · subst h14; exact ag14 p m _ _
  by_cases h23 : k = 23
  · subst h23; exact ag23 p m s t r q hr hq
  by_cases h25 : k = 25
  · subst h25; exact ag25 p m s t r q hr hq
  exact ⟨false, true, fun w => modOther k p m _ _ w (by simpa using h26) (by simpa using h27) (by simpa using h28) (by simpa using h29) (by simpa using h24) (by simpa using h34) (by simpa using h33) (by simpa using h35) (by simpa using h17) (by simpa using h19) (by simpa using h18) (by simpa using h20) (by simpa using h30) (by simpa using h31) (by simpa using h32) (by simpa using h11) (by simpa using h12) (by simpa using h13) (by simpa using h14) (by simpa using h23) (by simpa using h25), fun _ b l l' d d' w h hb g g' => foldOther k b d d' w h (by simpa using h26) (by simpa using h27) (by simpa using h28) (by simpa using h29) (by simpa using h24) (by simpa using h34) (by simpa using h33) (by simpa using h35) (by simpa using h17) (by simpa using h19) (by simpa using h18) (by simpa using h20) (by simpa using h30) (by simpa using h31) (by simpa using h32) (by simpa using h11) (by simpa using h12) (by simpa using h13) (by simpa using h14) (by simpa using h23) (by simpa using h25)⟩
theorem leaf_mk (str : Bool) (A : Option Addr) (n c : Nat) (f : Nat) (w : World) : Calls Try.prog 7 #[.bool str, .slice A n c, .float .f64 f] w fun e w' => ∃ T v b, e = .returned (.agg #[.iface T v, .int .i32 0]) ∧ Leaf w' b (.iface T v) str f ∧ Below w.heap.size w w' := by
  cases str
  · go_enter Try.func7, Try.ntmps7
    go_wp2_with fail
    refine bodyPost_ret (v := .agg #[.iface 45 (.pointer (some ⟨w.heap.size + 1, 0, none⟩)), .int .i32 0]) (by simp [results, Try.results7, go_sem]) rfl ⟨_, _, w.heap.size + 1, rfl, .inl ⟨rfl, rfl, by simp, by simp [go_sem]⟩, ?_⟩
    exact ((Below.refl _ _).alloc (Nat.le_refl _) _).alloc (by simp) _
  · go_enter Try.func7, Try.ntmps7
    go_wp2_with fail
    refine bodyPost_ret (v := .agg #[.iface 42 (.pointer (some ⟨w.heap.size + 1, 0, none⟩)), .int .i32 0]) (by simp [results, Try.results7, go_sem]) rfl ⟨_, _, w.heap.size + 1, rfl, .inr ⟨rfl, rfl, by simp, A, n, c, by simp [go_sem]⟩, ?_⟩
    exact ((Below.refl _ _).alloc (Nat.le_refl _) _).alloc (by simp) _

end Go.Proofs.Ytdjiekejkjgamad
