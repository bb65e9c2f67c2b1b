/-
  The properties of an object expression, as they lie in memory; no statement of its own.
-/
import Derived.Test.YtokkndnicpgdkaaRows
import Derived.WalkKit
import Derived.ProofKit
import Derived.OpenShut
import Derived.Test.YtokkndnicpgdkaaSlW
import Derived.Test.YtokkndnicpgdkaaLbA
import Derived.Test.YtokkndnicpgdkaaLbR
import Derived.Test.YtokkndnicpgdkaaLbE
import Derived.Test.YtokkndnicpgdkaaLbK
import Derived.Test.YtokkndnicpgdkaaLbO
import Derived.WalkLawsBesides
import Derived.WalkSpells
import Derived.Below
import Derived.Lib.Hide
import Derived.Deep.MidRow
namespace Go.Proofs.Ytokkndnicpgdkaa
open Go.ChangeShapes Go.WideShapes Go.ChangeAt Go.RowKit

set_option linter.unusedVariables false

def FldOk (lo0 hi0 lo hi : Nat) (w : World) (l1 : Nat) (its : List Ko) (i : Nat) (it : Ko) : Prop := it.kl = l1 + (wsO (its.take i)).length ∧ it.l = it.kl + 1 ∧ it.pt < 4294967296 ∧ (lo0 ≤ it.kg ∧ it.kg < hi0 ∧ NumBk w it.kg it.pt) ∧ (dfO it.pt = true → lo0 ≤ it.dg ∧ it.dg < hi0 ∧ NumBk w it.dg it.pt) ∧ lo ≤ it.lo ∧ it.hi ≤ hi
def FieldsOk (lo0 hi0 lo hi : Nat) (w : World) (l1 : Nat) (its : List Ko) : Prop := ∀ i it, its[i]? = some it → FldOk lo0 hi0 lo hi w l1 its i it ∧ Ser lo0 hi0 it.lo it.hi w it.d it.l it.ws
/-- What is to be shown of the serialiser on an object expression. -/
def SerObjOk : Prop := ∀ (lo0 hi0 lo hi : Nat) (w : World) (q l n0 K : Nat) (sg : Bool) (its : List Ko), n0 ≤ 15 → its.length = n0 → Bk w q 105 #[.slice (some ⟨K, 0, none⟩) n0 n0, .int .i32 0, .int .i32 0, .bool sg, .bool false] → lo ≤ q → q < hi → lo ≤ K → K < hi → RowP w K n0 its → FieldsOk lo0 hi0 lo hi w (l + 1) its → l + 1 + (wsO its).length ≤ 1000000 →
  Ser lo0 hi0 lo hi w (.iface 103 (ptr q)) l (hdrO n0 sg :: wsO its)
def SerObjOk0 : Prop := ∀ (lo0 hi0 lo hi : Nat) (w : World) (q l n0 K : Nat) (sg : Bool) (its : List Ko), n0 ≤ 15 → its.length = n0 → Bk w q 105 #[.slice (some ⟨K, 0, none⟩) n0 n0, .int .i32 0, .int .i32 0, .bool sg, .bool false] → lo ≤ q → q < hi → lo ≤ K → K < hi → RowP w K n0 its → FieldsOk lo0 hi0 lo hi w (l + 1) its → l + 1 + (wsO its).length ≤ 1000000 →
  Ser0 lo0 hi0 lo hi w (.iface 103 (ptr q)) l (hdrO n0 sg :: wsO its)
theorem RowP.bk {w : World} {K n0 : Nat} {its : List Ko} (h : RowP w K n0 its) : ∃ cs, Bk w K 102 cs := by obtain ⟨f, ⟨arr, h1, _⟩, _⟩ := h; exact ⟨arr, h1⟩
theorem RowP.move {w w' : World} {K n0 : Nat} {its : List Ko} (h : RowP w K n0 its) (hk : ∀ cs, Bk w K 102 cs → Bk w' K 102 cs) : RowP w' K n0 its := by obtain ⟨f, h1, h2⟩ := h; exact ⟨f, h1.move hk, h2⟩
theorem FldO.upd {f : Nat → Nat → Value} {i k j : Nat} {it : Ko} {v : Value} (h : FldO f i it) (hi : i ≠ k) : FldO (upd f k j v) i it := by
  have hu : ∀ a, Go.Proofs.Ytokkndnicpgdkaa.upd f k j v i a = f i a := fun a => upd_other _ _ _ _ _ _ (by omega)
  obtain ⟨a0, a1, a2, a3, a4, a5, a6, a7, a8, a9, a10, a11⟩ := h
  exact ⟨(hu 0).trans a0, (hu 1).trans a1, (hu 2).trans a2, (hu 3).trans a3, (hu 4).trans a4, (hu 5).trans a5, (hu 6).trans a6, (hu 7).trans a7, (hu 8).trans a8, (hu 9).trans a9, (hu 10).trans a10, (hu 11).trans a11⟩
theorem RowP.set {w : World} {K n0 k : Nat} {its : List Ko} (h : RowP w K n0 its) (hk : its.length = k) (hk0 : k < n0) (it : Ko) (v5 v6 v10 v11 : Value) (e5 : v5 = if dfO it.pt then Num it.dg else .nilIface) (e6 : v6 = .int .i32 (if dfO it.pt then (it.kl : Int) else 0)) (e10 : v10 = .int .u8 (if it.pt % 2 = 1 then 5 else 0)) (e11 : v11 = .int .u8 (if it.pt / 2 % 2 = 1 then 1 else 0)) :
    RowP ((((((((((((w.setCell ⟨K, k * 12, none⟩ (.pointer none)).setCell ⟨K, k * 12 + 1, none⟩ (Num it.kg)).setCell ⟨K, k * 12 + 2, none⟩ (.int .i32 (it.kl : Int))).setCell ⟨K, k * 12 + 3, none⟩ it.d).setCell ⟨K, k * 12 + 4, none⟩ (.int .i32 (it.l : Int))).setCell ⟨K, k * 12 + 5, none⟩ v5).setCell ⟨K, k * 12 + 6, none⟩ v6).setCell ⟨K, k * 12 + 7, none⟩ (.slice none 0 0)).setCell ⟨K, k * 12 + 8, none⟩ (.int .i32 0)).setCell ⟨K, k * 12 + 9, none⟩ (.int .i32 0)).setCell ⟨K, k * 12 + 10, none⟩ v10).setCell ⟨K, k * 12 + 11, none⟩ v11) K n0 (its ++ [it]) := by
  obtain ⟨f, h1, h2⟩ := h
  have g0 := h1.set (i := k) (j := 0) hk0 (by omega) (.pointer none)
  rw [Nat.add_zero] at g0
  have g1 := g0.set (i := k) (j := 1) hk0 (by omega) (Num it.kg)
  have g2 := g1.set (i := k) (j := 2) hk0 (by omega) (.int .i32 (it.kl : Int))
  have g3 := g2.set (i := k) (j := 3) hk0 (by omega) it.d
  have g4 := g3.set (i := k) (j := 4) hk0 (by omega) (.int .i32 (it.l : Int))
  have g5 := g4.set (i := k) (j := 5) hk0 (by omega) v5
  have g6 := g5.set (i := k) (j := 6) hk0 (by omega) v6
  have g7 := g6.set (i := k) (j := 7) hk0 (by omega) (.slice none 0 0)
  have g8 := g7.set (i := k) (j := 8) hk0 (by omega) (.int .i32 0)
  have g9 := g8.set (i := k) (j := 9) hk0 (by omega) (.int .i32 0)
  have g10 := g9.set (i := k) (j := 10) hk0 (by omega) v10
  have g11 := g10.set (i := k) (j := 11) hk0 (by omega) v11
  refine ⟨_, g11, fun i y hy => ?_⟩
  rcases getO_snoc hy with ⟨hi, hy⟩ | ⟨hi, rfl⟩
  · have hik : i ≠ k := by omega
    exact ((((((((((((h2 i y hy).upd hik).upd hik).upd hik).upd hik).upd hik).upd hik).upd hik).upd hik).upd hik).upd hik).upd hik).upd hik
  · have e2 : i = k := by omega
    subst e2
    refine ⟨?_, ?_, ?_, ?_, ?_, ?_, ?_, ?_, ?_, ?_, ?_, ?_⟩
    · simp [upd]
    · simp [upd]
    · simp [upd]
    · simp [upd]
    · simp [upd]
    · simp [upd, e5]
    · simp [upd, e6]
    · simp [upd]
    · simp [upd]
    · simp [upd]
    · simp [upd, e10]
    · simp [upd, e11]
theorem RowP.cells {w : World} {K n0 k : Nat} {its : List Ko} (h : RowP w K n0 its) (hk : its.length = k) (hk0 : k < n0) (it : Ko) (v5 v6 v10 v11 : Value) (e5 : v5 = if dfO it.pt then Num it.dg else .nilIface) (e6 : v6 = .int .i32 (if dfO it.pt then (it.kl : Int) else 0)) (e10 : v10 = .int .u8 (if it.pt % 2 = 1 then 5 else 0)) (e11 : v11 = .int .u8 (if it.pt / 2 % 2 = 1 then 1 else 0)) :
    RowP (w.setCells K (k * 12) [.pointer none, Num it.kg, .int .i32 (it.kl : Int), it.d, .int .i32 (it.l : Int), v5, v6, .slice none 0 0, .int .i32 0, .int .i32 0, v10, v11]) K n0 (its ++ [it]) := by
  simp only [World.setCells, Nat.add_assoc, Nat.reduceAdd]
  exact h.set hk hk0 it v5 v6 v10 v11 e5 e6 e10 e11
theorem Rw.there {w : World} {K : Nat} {t : TypeId} {n s : Nat} {f : Nat → Nat → Value} (h : Rw w K t n s f) {i : Nat} (hi : i < n) : w.there K (i * s) s := fun j hj => ⟨by rw [h.cell hi hj]; rfl, h.frozen _⟩
theorem size_cells (b : Nat) : ∀ (vs : List Value) (w : World) (o : Nat), (w.setCells b o vs).heap.size = w.heap.size
  | [], _, _ => rfl
  | v :: vs, w, o => by show ((w.setCell _ v).setCells b (o + 1) vs).heap.size = _; rw [size_cells b vs]; simp
theorem Bk.cells {g b : Nat} {t : TypeId} {cs : Array Value} (hn : g ≠ b) : ∀ (vs : List Value) (w : World) (o : Nat), Bk w g t cs → Bk (w.setCells b o vs) g t cs
  | [], _, _, h => h
  | v :: vs, w, o, h => Bk.cells hn vs _ (o + 1) (h.set hn)
theorem agreeT_cells {lo hi K : Nat} (h : K < lo ∨ hi ≤ K) : ∀ (vs : List Value) (w : World) (o : Nat), AgreeT lo hi w (w.setCells K o vs)
  | [], _, _ => AgreeT.refl _ _ _
  | v :: vs, w, o => (agreeT_set w h).trans (agreeT_cells h vs _ (o + 1))
theorem below_cells {B b : Nat} {w : World} (hb : B ≤ b) : ∀ (vs : List Value) (w' : World) (o : Nat), Below B w w' → Below B w (w'.setCells b o vs)
  | [], _, _, h => h
  | v :: vs, w', o, h => below_cells hb vs _ (o + 1) (h.setCell hb v)
theorem FldOk.move {lo0 hi0 lo hi hi' : Nat} {w w' : World} {l1 i : Nat} {its : List Ko} {it : Ko} (h : FldOk lo0 hi0 lo hi w l1 its i it) (hh : hi ≤ hi') (h0 : AgreeT lo0 hi0 w w') : FldOk lo0 hi0 lo hi' w' l1 its i it := by
  obtain ⟨h1, h2, h3, h4, h5, h6, h7⟩ := h
  exact ⟨h1, h2, h3, ⟨h4.1, h4.2.1, h0.bk h4.2.2 h4.1 h4.2.1 (by decide)⟩, fun hd => by obtain ⟨c1, c2, c3⟩ := h5 hd; exact ⟨c1, c2, h0.bk c3 c1 c2 (by decide)⟩, h6, by omega⟩
theorem FieldsOk.move {lo0 hi0 lo hi hi' : Nat} {w w' : World} {l1 : Nat} {its : List Ko} (h : FieldsOk lo0 hi0 lo hi w l1 its) (hh : hi ≤ hi') (h0 : AgreeT lo0 hi0 w w') (ha : AgreeT lo hi w w') : FieldsOk lo0 hi0 lo hi' w' l1 its := fun i it hit => by
  obtain ⟨h1, h2⟩ := h i it hit
  exact ⟨h1.move hh h0, h2.agree h0 (ha.sub h1.2.2.2.2.2.1 h1.2.2.2.2.2.2)⟩
theorem FieldsOk.mono {lo0 hi0 lo lo' hi : Nat} {w : World} {l1 : Nat} {its : List Ko} (h : FieldsOk lo0 hi0 lo hi w l1 its) (hl : lo' ≤ lo) : FieldsOk lo0 hi0 lo' hi w l1 its := fun i it hit => by
  obtain ⟨⟨h1, h2, h3, h4, h5, h6, h7⟩, hc⟩ := h i it hit
  exact ⟨⟨h1, h2, h3, h4, h5, by omega, h7⟩, hc⟩
theorem FieldsOk.snoc {lo0 hi0 lo hi : Nat} {w : World} {l1 : Nat} {its : List Ko} {it : Ko} (h : FieldsOk lo0 hi0 lo hi w l1 its) (h1 : FldOk lo0 hi0 lo hi w l1 its its.length it) (h2 : Ser lo0 hi0 it.lo it.hi w it.d it.l it.ws) : FieldsOk lo0 hi0 lo hi w l1 (its ++ [it]) := fun i y hy => by
  rcases getO_snoc hy with ⟨hi, hy⟩ | ⟨rfl, rfl⟩
  · obtain ⟨⟨a1, a2⟩, a3⟩ := h i y hy
    exact ⟨⟨by rw [List.take_append_of_le_length (by omega)]; exact a1, a2⟩, a3⟩
  · obtain ⟨a1, a2⟩ := h1
    exact ⟨⟨by rw [List.take_left']; rw [List.take_length] at a1; exact a1; rfl, a2⟩, h2⟩
/-- What holds at the head of a round of the conversion's loop over the properties. -/
structure Co (lo0 hi0 : Nat) (w1 : World) (K2 n0 l1 l : Nat) (its : List Ko) (k : Nat) (xs : List Ko) (wr : World) : Prop where
  row : RowP wr K2 n0 xs
  flds : FieldsOk lo0 hi0 (K2 + 1) wr.heap.size wr l1 xs
  len : xs.length = k
  wse : wsO xs = wsO (its.take k)
  bl : Below w1.heap.size w1 wr
  rb : Bk wr (w1.heap.size + 1) 42 #[.nilIface, .int .i32 0]
  lb : Bk wr (w1.heap.size + 1 + 1) 30 #[.int .i32 (l : Int)]

end Go.Proofs.Ytokkndnicpgdkaa
