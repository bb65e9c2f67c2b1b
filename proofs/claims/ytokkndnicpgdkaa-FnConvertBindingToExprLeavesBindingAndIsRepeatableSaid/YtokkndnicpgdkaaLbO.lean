/-
  The properties of an object pattern and of an object expression, as they lie in memory; no statement of its own.
-/
import Derived.Test.YtokkndnicpgdkaaRows
import Derived.WalkKit
import Derived.ProofKit
import Derived.OpenShut
import Derived.Test.YtokkndnicpgdkaaSlW
import Derived.Test.YtokkndnicpgdkaaLbA
import Derived.Test.YtokkndnicpgdkaaLbR
import Derived.Test.YtokkndnicpgdkaaLbE
import Derived.Test.YtokkndnicpgdkaaLbK
import Derived.WalkLawsBesides
import Derived.WalkSpells
import Derived.Below
import Derived.Lib.Hide
namespace Go.Proofs.Ytokkndnicpgdkaa
open Go.ChangeShapes Go.WideShapes Go.ChangeAt Go.RowKit

set_option linter.unusedVariables false

/-- A key's block. -/
def NumBk (w : World) (g pt : Nat) : Prop := Bk w g 68 #[.float .f64 (fb (pt / 8))]
/-- The cells of a property pattern that its word and its key fill. -/
def KeyO (f : Nat → Nat → Value) (i pt kl kg dg : Nat) (b : Bool) : Prop := f i 0 = Num kg ∧ f i 1 = .int .i32 (kl : Int) ∧ f i 4 = (if b then Num dg else .nilIface) ∧ f i 5 = .int .i32 (if b then (kl : Int) else 0) ∧ f i 8 = .bool (decide (pt / 2 % 2 = 1)) ∧ f i 9 = .bool (decide (pt % 2 = 1))
def FullO (f : Nat → Nat → Value) (its : List Ko) : Prop := ∀ i it, its[i]? = some it → KeyO f i it.pt it.kl it.kg it.dg (dfO it.pt) ∧ f i 2 = it.d ∧ f i 3 = .int .i32 (it.l : Int)
def RestO (f : Nat → Nat → Value) (n0 k : Nat) : Prop := ∀ i, i < n0 → f i 6 = .int .i32 0 ∧ f i 7 = .int .i32 0 ∧ f i 10 = .bool false ∧ (k ≤ i → f i 4 = .nilIface ∧ f i 5 = .int .i32 0)
/-- The row of an object pattern. -/
def RowO (w : World) (K n0 : Nat) (its : List Ko) : Prop := ∃ f, Rw w K 70 n0 11 f ∧ FullO f its ∧ RestO f n0 its.length
/-- The same, the key of the next property in its place. -/
def RowC (w : World) (K n0 : Nat) (its : List Ko) (k pt kl kg dg : Nat) (b : Bool) : Prop := ∃ f, Rw w K 70 n0 11 f ∧ FullO f its ∧ KeyO f k pt kl kg dg b ∧ RestO f n0 (k + 1)
/-- A child's place and blocks. -/
def PropOk (lo hi : Nat) (w : World) (l1 : Nat) (its : List Ko) (i : Nat) (it : Ko) : Prop := it.kl = l1 + (wsO (its.take i)).length ∧ it.l = it.kl + 1 ∧ it.pt < 4294967296 ∧ lo ≤ it.kg ∧ it.kg < hi ∧ NumBk w it.kg it.pt ∧ (dfO it.pt = true → lo ≤ it.dg ∧ it.dg < hi ∧ NumBk w it.dg it.pt) ∧ lo ≤ it.lo ∧ it.hi ≤ hi
/-- The properties: where they stand in the stream, where they lie, and what the conversion does with the children. -/
def PropsOk (lo hi : Nat) (w : World) (l1 : Nat) (its : List Ko) : Prop := ∀ i it, its[i]? = some it → PropOk lo hi w l1 its i it ∧ Conv it.lo it.hi w it.d it.l it.ws
/-- What is to be shown of the conversion of an object pattern. -/
def ObjOk : Prop := ∀ (lo hi : Nat) (w : World) (q l n0 K : Nat) (sg : Bool) (its : List Ko), n0 ≤ 15 → its.length = n0 → Bk w q 73 #[.slice (some ⟨K, 0, none⟩) n0 n0, .int .i32 0, .bool sg] → lo ≤ q → q < hi → lo ≤ K → K < hi → RowO w K n0 its → PropsOk lo hi w (l + 1) its → l + 1 + (wsO its).length ≤ 1000000 →
  Conv lo hi w (.iface 71 (ptr q)) l (hdrO n0 sg :: wsO its)
def ObjOk0 : Prop := ∀ (lo hi : Nat) (w : World) (q l n0 K : Nat) (sg : Bool) (its : List Ko), n0 ≤ 15 → its.length = n0 → Bk w q 73 #[.slice (some ⟨K, 0, none⟩) n0 n0, .int .i32 0, .bool sg] → lo ≤ q → q < hi → lo ≤ K → K < hi → RowO w K n0 its → PropsOk lo hi w (l + 1) its → l + 1 + (wsO its).length ≤ 1000000 →
  Conv0 lo hi w (.iface 71 (ptr q)) l (hdrO n0 sg :: wsO its)
theorem wsO_take (its : List Ko) (k : Nat) (it : Ko) (h : its[k]? = some it) : wsO (its.take (k + 1)) = wsO (its.take k) ++ (it.pt :: it.ws) := by
  unfold wsO; rw [List.take_add_one, h]; simp
theorem wsO_snoc (its : List Ko) (it : Ko) : wsO (its ++ [it]) = wsO its ++ (it.pt :: it.ws) := by unfold wsO; rw [List.flatMap_append, List.flatMap_singleton]
theorem wsO_le (its : List Ko) (k : Nat) (it : Ko) (h : its[k]? = some it) : (wsO (its.take k)).length + 1 + it.ws.length ≤ (wsO its).length := by
  have h1 := wsO_take its k it h
  have h2 : wsO its = wsO (its.take (k + 1)) ++ wsO (its.drop (k + 1)) := by unfold wsO; rw [← List.flatMap_append, List.take_append_drop]
  rw [h2, List.length_append, h1, List.length_append, List.length_cons]; omega
theorem getO_snoc {l : List Ko} {x y : Ko} {i : Nat} (h : (l ++ [x])[i]? = some y) : (i < l.length ∧ l[i]? = some y) ∨ (i = l.length ∧ y = x) := by
  by_cases hi : i < l.length
  · rw [List.getElem?_append_left hi] at h; exact .inl ⟨hi, h⟩
  · rw [List.getElem?_append_right (by omega)] at h
    have e : i - l.length = 0 := by
      rcases Nat.eq_zero_or_pos (i - l.length) with e | e
      · exact e
      · rw [List.getElem?_eq_none (by simp; omega)] at h; cases h
    rw [e] at h
    simp at h
    exact .inr ⟨by omega, h.symm⟩
theorem FullO.upd {f : Nat → Nat → Value} {its : List Ko} (h : FullO f its) {k j : Nat} (hk : its.length ≤ k) (v : Value) : FullO (upd f k j v) its := fun i it hit => by
  have hi : i < its.length := by
    rcases Nat.lt_or_ge i its.length with h | h
    · exact h
    · rw [List.getElem?_eq_none h] at hit; cases hit
  have hu : ∀ a, Go.Proofs.Ytokkndnicpgdkaa.upd f k j v i a = f i a := fun a => upd_other _ _ _ _ _ _ (by omega)
  obtain ⟨⟨a0, a1, a4, a5, a8, a9⟩, a2, a3⟩ := h i it hit
  exact ⟨⟨(hu 0).trans a0, (hu 1).trans a1, (hu 4).trans a4, (hu 5).trans a5, (hu 8).trans a8, (hu 9).trans a9⟩, (hu 2).trans a2, (hu 3).trans a3⟩
theorem RestO.upd {f : Nat → Nat → Value} {n0 k k0 j : Nat} (h : RestO f n0 k0) (hj : j ≠ 6 ∧ j ≠ 7 ∧ j ≠ 10) (hk : j ≠ 4 ∧ j ≠ 5 ∨ k < k0) (v : Value) : RestO (upd f k j v) n0 k0 := fun i hi => by
  obtain ⟨a6, a7, a10, ar⟩ := h i hi
  refine ⟨(upd_other _ _ _ _ _ _ (by omega)).trans a6, (upd_other _ _ _ _ _ _ (by omega)).trans a7, (upd_other _ _ _ _ _ _ (by omega)).trans a10, fun hki => ⟨(upd_other _ _ _ _ _ _ (by omega)).trans (ar hki).1, (upd_other _ _ _ _ _ _ (by omega)).trans (ar hki).2⟩⟩
theorem RestO.mono {f : Nat → Nat → Value} {n0 k k' : Nat} (h : RestO f n0 k) (hk : k ≤ k') : RestO f n0 k' := fun i hi => by
  obtain ⟨a6, a7, a10, ar⟩ := h i hi
  exact ⟨a6, a7, a10, fun h => ar (by omega)⟩
theorem RowO.bk {w : World} {K n0 : Nat} {its : List Ko} (h : RowO w K n0 its) : ∃ cs, Bk w K 70 cs := by obtain ⟨f, ⟨arr, h1, _⟩, _⟩ := h; exact ⟨arr, h1⟩
theorem RowC.bk {w : World} {K n0 k pt kl kg dg : Nat} {b : Bool} {its : List Ko} (h : RowC w K n0 its k pt kl kg dg b) : ∃ cs, Bk w K 70 cs := by obtain ⟨f, ⟨arr, h1, _⟩, _⟩ := h; exact ⟨arr, h1⟩
theorem RowO.move {w w' : World} {K n0 : Nat} {its : List Ko} (h : RowO w K n0 its) (hk : ∀ cs, Bk w K 70 cs → Bk w' K 70 cs) : RowO w' K n0 its := by obtain ⟨f, h1, h2, h3⟩ := h; exact ⟨f, h1.move hk, h2, h3⟩
theorem RowC.move {w w' : World} {K n0 k pt kl kg dg : Nat} {b : Bool} {its : List Ko} (h : RowC w K n0 its k pt kl kg dg b) (hk : ∀ cs, Bk w K 70 cs → Bk w' K 70 cs) : RowC w' K n0 its k pt kl kg dg b := by obtain ⟨f, h1, h2, h3, h4⟩ := h; exact ⟨f, h1.move hk, h2, h3, h4⟩
theorem RowO.key {w : World} {K n0 k : Nat} {its : List Ko} (h : RowO w K n0 its) (hk : its.length = k) (hk0 : k < n0) (pt kl kg dg : Nat) :
    RowC ((((w.setCell ⟨K, k * 11, none⟩ (Num kg)).setCell ⟨K, k * 11 + 1, none⟩ (.int .i32 (kl : Int))).setCell ⟨K, k * 11 + 9, none⟩ (.bool (decide (pt % 2 = 1)))).setCell ⟨K, k * 11 + 8, none⟩ (.bool (decide (pt / 2 % 2 = 1)))) K n0 its k pt kl kg dg false := by
  obtain ⟨f, h1, h2, h3⟩ := h
  have g1 := h1.set (i := k) (j := 0) hk0 (by omega) (Num kg)
  rw [Nat.add_zero] at g1
  have g2 := g1.set (i := k) (j := 1) hk0 (by omega) (.int .i32 (kl : Int))
  have g3 := g2.set (i := k) (j := 9) hk0 (by omega) (.bool (decide (pt % 2 = 1)))
  have g4 := g3.set (i := k) (j := 8) hk0 (by omega) (.bool (decide (pt / 2 % 2 = 1)))
  obtain ⟨a4, a5⟩ := (h3 k hk0).2.2.2 (by omega)
  refine ⟨_, g4, (((h2.upd (by omega) _).upd (by omega) _).upd (by omega) _).upd (by omega) _, ⟨?_, ?_, ?_, ?_, ?_, ?_⟩, ((((h3.mono (by omega)).upd (by omega) (by omega) _).upd (by omega) (by omega) _).upd (by omega) (by omega) _).upd (by omega) (by omega) _⟩
  · simp [upd]
  · simp [upd]
  · simp [upd, a4]
  · simp [upd, a5]
  · simp [upd]
  · simp [upd]
theorem RowC.dflt {w : World} {K n0 k pt kl kg dg0 : Nat} {its : List Ko} (h : RowC w K n0 its k pt kl kg dg0 false) (hk : its.length = k) (hk0 : k < n0) (dg : Nat) :
    RowC ((w.setCell ⟨K, k * 11 + 4, none⟩ (Num dg)).setCell ⟨K, k * 11 + 5, none⟩ (.int .i32 (kl : Int))) K n0 its k pt kl kg dg true := by
  obtain ⟨f, h1, h2, ⟨a0, a1, a4, a5, a8, a9⟩, h3⟩ := h
  have g1 := h1.set (i := k) (j := 4) hk0 (by omega) (Num dg)
  have g2 := g1.set (i := k) (j := 5) hk0 (by omega) (.int .i32 (kl : Int))
  refine ⟨_, g2, (h2.upd (by omega) _).upd (by omega) _, ⟨?_, ?_, ?_, ?_, ?_, ?_⟩, (h3.upd (by omega) (by omega) _).upd (by omega) (by omega) _⟩
  · simp [upd, a0]
  · simp [upd, a1]
  · simp [upd]
  · simp [upd]
  · simp [upd, a8]
  · simp [upd, a9]
theorem RowC.value {w : World} {K n0 k : Nat} {its : List Ko} {it : Ko} {b : Bool} (h : RowC w K n0 its k it.pt it.kl it.kg it.dg b) (hb : b = dfO it.pt) (hk : its.length = k) (hk0 : k < n0) :
    RowO ((w.setCell ⟨K, k * 11 + 2, none⟩ it.d).setCell ⟨K, k * 11 + 3, none⟩ (.int .i32 (it.l : Int))) K n0 (its ++ [it]) := by
  obtain ⟨f, h1, h2, ⟨a0, a1, a4, a5, a8, a9⟩, h3⟩ := h
  subst hb
  have g1 := h1.set (i := k) (j := 2) hk0 (by omega) it.d
  have g2 := g1.set (i := k) (j := 3) hk0 (by omega) (.int .i32 (it.l : Int))
  refine ⟨_, g2, fun i y hy => ?_, by rw [List.length_append, hk]; exact (h3.upd (by omega) (by omega) _).upd (by omega) (by omega) _⟩
  rcases getO_snoc hy with ⟨hi, hy⟩ | ⟨hi, rfl⟩
  · exact ((h2.upd (by omega) _).upd (by omega) _) i y hy
  · have e2 : i = k := by omega
    subst e2
    refine ⟨⟨?_, ?_, ?_, ?_, ?_, ?_⟩, ?_, ?_⟩
    · simp [upd, a0]
    · simp [upd, a1]
    · simp [upd, a4]
    · simp [upd, a5]
    · simp [upd, a8]
    · simp [upd, a9]
    · simp [upd]
    · simp [upd]
theorem PropOk.move {lo hi hi' : Nat} {w w' : World} {l1 i : Nat} {its : List Ko} {it : Ko} (h : PropOk lo hi w l1 its i it) (hh : hi ≤ hi') (ha : AgreeT lo hi w w') : PropOk lo hi' w' l1 its i it := by
  obtain ⟨h1, h2, h3, h4, h5, h6, h7, h8, h9⟩ := h
  exact ⟨h1, h2, h3, h4, by omega, ha.bk h6 h4 h5 (by decide), fun hd => by obtain ⟨c1, c2, c3⟩ := h7 hd; exact ⟨c1, by omega, ha.bk c3 c1 c2 (by decide)⟩, h8, by omega⟩
theorem PropsOk.move {lo hi hi' : Nat} {w w' : World} {l1 : Nat} {its : List Ko} (h : PropsOk lo hi w l1 its) (hh : hi ≤ hi') (ha : AgreeT lo hi w w') : PropsOk lo hi' w' l1 its := fun i it hit => by
  obtain ⟨h1, h2⟩ := h i it hit
  exact ⟨h1.move hh ha, h2.agree (ha.sub h1.2.2.2.2.2.2.2.1 h1.2.2.2.2.2.2.2.2)⟩
theorem PropsOk.mono {lo lo' hi : Nat} {w : World} {l1 : Nat} {its : List Ko} (h : PropsOk lo hi w l1 its) (hl : lo' ≤ lo) : PropsOk lo' hi w l1 its := fun i it hit => by
  obtain ⟨⟨h1, h2, h3, h4, h5, h6, h7, h8, h9⟩, hc⟩ := h i it hit
  exact ⟨⟨h1, h2, h3, by omega, h5, h6, fun hd => by obtain ⟨c1, c2, c3⟩ := h7 hd; exact ⟨by omega, c2, c3⟩, by omega, h9⟩, hc⟩
theorem PropsOk.snoc {lo hi : Nat} {w : World} {l1 : Nat} {its : List Ko} {it : Ko} (h : PropsOk lo hi w l1 its) (h1 : PropOk lo hi w l1 its its.length it) (h2 : Conv it.lo it.hi w it.d it.l it.ws) : PropsOk lo hi w l1 (its ++ [it]) := fun i y hy => by
  rcases getO_snoc hy with ⟨hi, hy⟩ | ⟨rfl, rfl⟩
  · obtain ⟨⟨a1, a2⟩, a3⟩ := h i y hy
    exact ⟨⟨by rw [List.take_append_of_le_length (by omega)]; exact a1, a2⟩, a3⟩
  · obtain ⟨a1, a2⟩ := h1
    exact ⟨⟨by rw [List.take_left']; rw [List.take_length] at a1; exact a1; rfl, a2⟩, h2⟩
/-- What holds at the head of a round of the parser's loop over the properties, but for the stream. -/
structure Pq (P B K n0 l1 : Nat) (w : World) (R S l0 k : Nat) (its : List Ko) (wr : World) : Prop where
  row : RowO wr K n0 its
  kids : PropsOk (K + 1) wr.heap.size wr l1 its
  keep : KeepT P w wr
  bl : Below B w wr
  rb : Bk wr R 32 #[.nilIface, .int .i32 0]
  sb : Bk wr S 32 #[.nilIface, .int .i32 (l0 : Int)]
  len : its.length = k
/-- The same within a round, ahead of the call on the child. -/
structure Pr (P B K n0 l1 : Nat) (w : World) (R S l0 k : Nat) (its : List Ko) (pt kl kg dg : Nat) (b : Bool) (wr : World) : Prop where
  row : RowC wr K n0 its k pt kl kg dg b
  kids : PropsOk (K + 1) wr.heap.size wr l1 its
  keep : KeepT P w wr
  bl : Below B w wr
  rb : Bk wr R 32 #[.nilIface, .int .i32 0]
  sb : Bk wr S 32 #[.nilIface, .int .i32 (l0 : Int)]
  len : its.length = k
  kn : K + 1 ≤ kg ∧ kg < wr.heap.size ∧ NumBk wr kg pt
  dn : b = true → K + 1 ≤ dg ∧ dg < wr.heap.size ∧ NumBk wr dg pt
theorem Pq.move {P B K n0 l1 : Nat} {w : World} {R S l0 k : Nat} {its : List Ko} {wr w1 : World} (H : Pq P B K n0 l1 w R S l0 k its wr) (hk : KeepT P wr w1) (hb : Below B wr w1) (hKP : K ≠ P) (hR : R ≠ P) (hS : S ≠ P) (hPK : P < K + 1) : Pq P B K n0 l1 w R S l0 k its w1 :=
  ⟨H.row.move fun cs h => hk.bk h hKP (by decide), H.kids.move hb.size (hk.agree hPK), H.keep.trans hk, H.bl.trans hb, hk.bk H.rb hR (by decide), hk.bk H.sb hS (by decide), H.len⟩
theorem Pr.move {P B K n0 l1 : Nat} {w : World} {R S l0 k pt kl kg dg : Nat} {b : Bool} {its : List Ko} {wr w1 : World} (H : Pr P B K n0 l1 w R S l0 k its pt kl kg dg b wr) (hk : KeepT P wr w1) (hb : Below B wr w1) (hKP : K ≠ P) (hR : R ≠ P) (hS : S ≠ P) (hPK : P < K + 1) : Pr P B K n0 l1 w R S l0 k its pt kl kg dg b w1 := by
  have hs := hb.size
  exact ⟨H.row.move fun cs h => hk.bk h hKP (by decide), H.kids.move hs (hk.agree hPK), H.keep.trans hk, H.bl.trans hb, hk.bk H.rb hR (by decide), hk.bk H.sb hS (by decide), H.len,
    by obtain ⟨a, b, c⟩ := H.kn; exact ⟨a, by omega, hk.bk c (by omega) (by decide)⟩, fun hd => by obtain ⟨a, b, c⟩ := H.dn hd; exact ⟨a, by omega, hk.bk c (by omega) (by decide)⟩⟩
/-- A store into block K leaves what lies above it. -/
theorem agreeK {K hi o : Nat} {v : Value} (w : World) : AgreeT (K + 1) hi w (w.setCell ⟨K, o, none⟩ v) := agreeT_set w (.inl (by omega))
theorem Pq.key {P B K n0 l1 : Nat} {w : World} {R S l0 k : Nat} {its : List Ko} {wr : World} (H : Pq P B K n0 l1 w R S l0 k its wr) (hk0 : k < n0) (hB : B ≤ P) (hPw : P < w.heap.size) (hK : w.heap.size ≤ K) (pt kl kg : Nat) (hn : K + 1 ≤ kg ∧ kg < wr.heap.size ∧ NumBk wr kg pt) :
    Pr P B K n0 l1 w R S l0 k its pt kl kg 0 false ((((wr.setCell ⟨K, k * 11, none⟩ (Num kg)).setCell ⟨K, k * 11 + 1, none⟩ (.int .i32 (kl : Int))).setCell ⟨K, k * 11 + 9, none⟩ (.bool (decide (pt % 2 = 1)))).setCell ⟨K, k * 11 + 8, none⟩ (.bool (decide (pt / 2 % 2 = 1)))) := by
  obtain ⟨cs0, hkb⟩ := H.row.bk
  have r1 : R ≠ K := H.rb.ne hkb (by decide)
  have s1 : S ≠ K := H.sb.ne hkb (by decide)
  have hKg : kg ≠ K := by omega
  refine ⟨H.row.key H.len hk0 pt kl kg 0, H.kids.move (by simp) (((((AgreeT.refl _ _ _).trans (agreeK _)).trans (agreeK _)).trans (agreeK _)).trans (agreeK _)), (((H.keep.setNew hK _ _).setNew hK _ _).setNew hK _ _).setNew hK _ _, (((H.bl.setCell (by show B ≤ K; omega) _).setCell (by show B ≤ K; omega) _).setCell (by show B ≤ K; omega) _).setCell (by show B ≤ K; omega) _,
    (((H.rb.set r1).set r1).set r1).set r1, (((H.sb.set s1).set s1).set s1).set s1, H.len, ⟨hn.1, by simp; exact hn.2.1, ((((show Bk wr kg _ _ from hn.2.2).set hKg).set hKg).set hKg).set hKg⟩, fun h => by cases h⟩
theorem Pr.dflt {P B K n0 l1 : Nat} {w : World} {R S l0 k pt kl kg dg0 : Nat} {its : List Ko} {wr : World} (H : Pr P B K n0 l1 w R S l0 k its pt kl kg dg0 false wr) (hk0 : k < n0) (hB : B ≤ P) (hPw : P < w.heap.size) (hK : w.heap.size ≤ K) (dg : Nat) (hn : K + 1 ≤ dg ∧ dg < wr.heap.size ∧ NumBk wr dg pt) :
    Pr P B K n0 l1 w R S l0 k its pt kl kg dg true ((wr.setCell ⟨K, k * 11 + 4, none⟩ (Num dg)).setCell ⟨K, k * 11 + 5, none⟩ (.int .i32 (kl : Int))) := by
  obtain ⟨cs0, hkb⟩ := H.row.bk
  have r1 : R ≠ K := H.rb.ne hkb (by decide)
  have s1 : S ≠ K := H.sb.ne hkb (by decide)
  have hKg : kg ≠ K := by have := H.kn.1; omega
  have hDg : dg ≠ K := by omega
  refine ⟨H.row.dflt H.len hk0 dg, H.kids.move (by simp) (((AgreeT.refl _ _ _).trans (agreeK _)).trans (agreeK _)), (H.keep.setNew hK _ _).setNew hK _ _, (H.bl.setCell (by show B ≤ K; omega) _).setCell (by show B ≤ K; omega) _,
    (H.rb.set r1).set r1, (H.sb.set s1).set s1, H.len, ⟨H.kn.1, by simp; exact H.kn.2.1, ((show Bk wr kg _ _ from H.kn.2.2).set hKg).set hKg⟩, fun _ => ⟨hn.1, by simp; exact hn.2.1, ((show Bk wr dg _ _ from hn.2.2).set hDg).set hDg⟩⟩
/-- The round's end: the child in its place. 'wr' is the world ahead of the call, 'w1' the world behind it. -/
theorem Pr.step {P B K n0 l1 : Nat} {w : World} {R S l0 k pt kl kg dg : Nat} {b : Bool} {its : List Ko} {wr w1 : World} (H : Pr P B K n0 l1 w R S l0 k its pt kl kg dg b wr) (hb0 : b = dfO pt) (hpt : pt < 4294967296) (hkl : kl = l1 + (wsO its).length) (hk0 : k < n0) (hB : B ≤ P) (hPw : P < w.heap.size) (hK : w.heap.size ≤ K) (hKr : K < wr.heap.size)
    (hkeep : KeepT P wr w1) (hbl : Below B wr w1) (hR : R ≠ P) (hS : S ≠ P) (T : TypeId) (g : Nat) (ws : List Nat) (hc : Conv wr.heap.size w1.heap.size w1 (.iface T (ptr g)) (kl + 1) ws) :
    Pq P B K n0 l1 w R S l0 (k + 1) (its ++ [⟨T, g, kl + 1, wr.heap.size, w1.heap.size, ws, pt, kl, kg, dg⟩]) ((w1.setCell ⟨K, k * 11 + 2, none⟩ (.iface T (ptr g))).setCell ⟨K, k * 11 + 3, none⟩ (.int .i32 ((kl + 1 : Nat) : Int))) := by
  have H1 := H.move hkeep hbl (by omega) hR hS (by omega)
  obtain ⟨cs0, hkb⟩ := H1.row.bk
  have r1 : R ≠ K := H1.rb.ne hkb (by decide)
  have s1 : S ≠ K := H1.sb.ne hkb (by decide)
  have hs := hbl.size
  have hKg : kg ≠ K := by have := H1.kn.1; omega
  refine ⟨RowC.value (it := ⟨T, g, kl + 1, wr.heap.size, w1.heap.size, ws, pt, kl, kg, dg⟩) H1.row hb0 H1.len hk0, ?_, (H1.keep.setNew hK _ _).setNew hK _ _, (H1.bl.setCell (by show B ≤ K; omega) _).setCell (by show B ≤ K; omega) _,
    (H1.rb.set r1).set r1, (H1.sb.set s1).set s1, by rw [List.length_append, H1.len]; rfl⟩
  refine PropsOk.snoc (H1.kids.move (by simp) (((AgreeT.refl _ _ _).trans (agreeK _)).trans (agreeK _))) ⟨by rw [List.take_length]; exact hkl, rfl, hpt, H1.kn.1, by simp; exact H1.kn.2.1, ((show Bk w1 kg _ _ from H1.kn.2.2).set hKg).set hKg, fun hd => ?_, by show K + 1 ≤ wr.heap.size; omega, by simp⟩ (hc.agree ?_)
  · obtain ⟨c1, c2, c3⟩ := H1.dn (hb0.trans hd)
    have hDg : dg ≠ K := by omega
    exact ⟨c1, by simp; exact c2, ((show Bk w1 dg _ _ from c3).set hDg).set hDg⟩
  · exact (agreeT_set _ (.inl (by show K < wr.heap.size; omega))).trans (agreeT_set _ (.inl (by show K < wr.heap.size; omega)))

end Go.Proofs.Ytokkndnicpgdkaa
