/-
  Two expressions of one stream in separate blocks are distinct; no statement of its own.
-/
import Derived.Test.YtokkndnicpgdkaaRows
import Derived.WalkKit
import Derived.ProofKit
import Derived.OpenShut
import Derived.Test.YtokkndnicpgdkaaSlW
import Derived.Test.YtokkndnicpgdkaaLbA
import Derived.Test.YtokkndnicpgdkaaLbR
import Derived.Test.YtokkndnicpgdkaaLbE
import Derived.Test.YtokkndnicpgdkaaLbZ
import Derived.WalkLawsBesides
import Derived.WalkSpells
import Derived.Below
import Derived.Lib.Hide
namespace Go.Proofs.Ytokkndnicpgdkaa
open Go.ChangeShapes Go.WideShapes Go.ChangeAt Go.RowKit

set_option linter.unusedVariables false

theorem flat_pre {α : Type} : ∀ (L L' : List (List α)) (a b : List α), L.length = L'.length → (∀ (i : Nat) (u v : List α), L[i]? = some u → L'[i]? = some v → ∀ a b : List α, u ++ a = v ++ b → u = v) → L.flatten ++ a = L'.flatten ++ b → L = L' := by
  intro L
  induction L with
  | nil =>
    intro L' a b hl hp h
    cases L' with
    | nil => rfl
    | cons => simp at hl
  | cons u L ih =>
    intro L' a b hl hp h
    cases L' with
    | nil => simp at hl
    | cons v L' =>
      have huv : u = v := hp 0 u v rfl rfl (L.flatten ++ a) (L'.flatten ++ b) (by simpa using h)
      subst huv
      have hr := ih L' a b (by simpa using hl) (fun i x y hx hy => hp (i + 1) x y (by simpa using hx) (by simpa using hy)) (by simpa using h)
      rw [hr]
theorem hdrA_inj {n m : Nat} {s s' t t' : Bool} (hn : n ≤ 15) (hm : m ≤ 15) (h : hdrA n s t = hdrA m s' t') : n = m ∧ s = s' ∧ t = t' := by
  unfold hdrA at h
  cases s <;> cases s' <;> cases t <;> cases t' <;> simp at h ⊢ <;> omega
theorem hdrO_inj {n m : Nat} {t t' : Bool} (hn : n ≤ 15) (hm : m ≤ 15) (h : hdrO n t = hdrO m t') : n = m ∧ t = t' := by
  unfold hdrO at h
  cases t <;> cases t' <;> simp at h ⊢ <;> omega
theorem hdrA_mod (n : Nat) (s t : Bool) : hdrA n s t % 4 = 2 := by
  unfold hdrA; cases s <;> cases t <;> simp <;> omega
theorem hdrO_mod (n : Nat) (t : Bool) : hdrO n t % 4 = 3 := by
  unfold hdrO; cases t <;> simp <;> omega
theorem map_same {α β : Type} {f : α → β} {l l' : List α} (h : l.map f = l'.map f) {i : Nat} {x y : α} (hx : l[i]? = some x) (hy : l'[i]? = some y) : f x = f y := by
  have h1 : (l.map f)[i]? = some (f x) := by rw [List.getElem?_map, hx]; rfl
  have h2 : (l'.map f)[i]? = some (f y) := by rw [List.getElem?_map, hy]; rfl
  rw [h, h2] at h1
  exact (Option.some.inj h1).symm
theorem get_map {α β : Type} {f : α → β} {l : List α} {i : Nat} {u : β} (h : (l.map f)[i]? = some u) : ∃ x, l[i]? = some x ∧ f x = u := by
  rw [List.getElem?_map] at h
  cases hx : l[i]? with
  | none => rw [hx] at h; cases h
  | some x => rw [hx] at h; exact ⟨x, rfl, Option.some.inj h⟩
/-- No stream is the beginning of another. -/
theorem Shp.pre {w : World} {ws : List Nat} {lo hi : Nat} {d : Value} (h : Shp w ws lo hi d) : ∀ {ws' : List Nat} {lo' hi' : Nat} {d' : Value}, Shp w ws' lo' hi' d' → ∀ a b : List Nat, ws ++ a = ws' ++ b → ws = ws' := by
  induction h with
  | missing =>
    intro ws' lo' hi' d' h2 a b he
    cases h2 with
    | missing => rfl
    | ident => simp at he
    | @arr _ _ _ _ n sp sg => have h3 := hdrA_mod n sp sg; simp only [List.cons_append, List.cons.injEq] at he; omega
    | @obj _ _ _ _ n sg => have h3 := hdrO_mod n sg; simp only [List.cons_append, List.cons.injEq] at he; omega
  | ident =>
    intro ws' lo' hi' d' h2 a b he
    cases h2 with
    | missing => simp at he
    | ident => simp only [List.cons_append, List.cons.injEq] at he; rw [he.1]
    | @arr _ _ _ _ n sp sg => have h3 := hdrA_mod n sp sg; simp only [List.cons_append, List.cons.injEq] at he; omega
    | @obj _ _ _ _ n sg => have h3 := hdrO_mod n sg; simp only [List.cons_append, List.cons.injEq] at he; omega
  | @arr lo hi q K n0 sp sg its n15 hlen hsp bk q1 q2 k1 k2 row rng spr kind kids ih =>
    intro ws' lo' hi' d' h2 a b he
    have h3 := hdrA_mod n0 sp sg
    cases h2 with
    | missing => simp only [List.cons_append, List.cons.injEq] at he; omega
    | ident => simp only [List.cons_append, List.cons.injEq] at he; omega
    | @arr _ _ _ _ n' sp' sg' its' n15' hlen' hsp' bk' q1' q2' k1' k2' row' rng' spr' kind' kids' =>
      simp only [List.cons_append, List.cons.injEq] at he
      obtain ⟨rfl, rfl, rfl⟩ := hdrA_inj n15 n15' he.1
      have hm : its.map Xi.ws = its'.map Xi.ws := by
        refine flat_pre _ _ a b (by simp [hlen, hlen']) ?_ (by have h4 := he.2; unfold wsX at h4; rw [List.flatMap_def, List.flatMap_def] at h4; exact h4)
        intro i u v hu hv a b huv
        obtain ⟨x, hx, rfl⟩ := get_map hu
        obtain ⟨y, hy, rfl⟩ := get_map hv
        exact ih i x hx (kids' i y hy) a b huv
      unfold wsX
      rw [List.flatMap_def, List.flatMap_def, hm]
    | @obj _ _ _ _ n sg => have h4 := hdrO_mod n sg; simp only [List.cons_append, List.cons.injEq] at he; omega
  | @obj lo hi q K n0 sg its n15 hlen bk q1 q2 k1 k2 row rng kids ih =>
    intro ws' lo' hi' d' h2 a b he
    have h3 := hdrO_mod n0 sg
    cases h2 with
    | missing => simp only [List.cons_append, List.cons.injEq] at he; omega
    | ident => simp only [List.cons_append, List.cons.injEq] at he; omega
    | @arr _ _ _ _ n sp sg => have h4 := hdrA_mod n sp sg; simp only [List.cons_append, List.cons.injEq] at he; omega
    | @obj _ _ _ _ n' sg' its' n15' hlen' bk' q1' q2' k1' k2' row' rng' kids' =>
      simp only [List.cons_append, List.cons.injEq] at he
      obtain ⟨rfl, rfl⟩ := hdrO_inj n15 n15' he.1
      have hm : (its.map fun it : Ko => it.pt :: it.ws) = its'.map fun it : Ko => it.pt :: it.ws := by
        refine flat_pre _ _ a b (by simp [hlen, hlen']) ?_ (by have h4 := he.2; unfold wsO at h4; rw [List.flatMap_def, List.flatMap_def] at h4; exact h4)
        intro i u v hu hv a b huv
        obtain ⟨x, hx, rfl⟩ := get_map hu
        obtain ⟨y, hy, rfl⟩ := get_map hv
        simp only [List.cons_append, List.cons.injEq] at huv
        rw [huv.1, ih i x hx (kids' i y hy) a b huv.2]
      unfold wsO
      rw [List.flatMap_def, List.flatMap_def, hm]
theorem get_some {α : Type} {l : List α} {n i : Nat} (h : l.length = n) (hi : i < n) : ∃ x, l[i]? = some x := ⟨_, List.getElem?_eq_getElem (by omega)⟩
/-- Two expressions of one stream, in separate blocks. -/
theorem Shp.twin {w : World} {ws : List Nat} {lo hi : Nat} {d : Value} (h : Shp w ws lo hi d) : ∀ {ws' : List Nat} {lo' hi' : Nat} {d' : Value}, Shp w ws' lo' hi' d' → ws = ws' → hi ≤ lo' → ∀ (w1 : World) (l l' : Int), AgreeT lo hi w w1 → AgreeT lo' hi' w w1 → hi ≤ w1.heap.size → hi' ≤ w1.heap.size →
    Calls Try.prog 12 #[.agg #[d, .int .i32 l], .agg #[d', .int .i32 l']] w1 (Yes w1) := by
  induction h with
  | missing =>
    intro ws' lo' hi' d' h2 he hs w1 l l' ha ha' hb hb'
    cases h2 with
    | missing => exact dist_missing _ _ _ _ _
    | ident => simp at he
    | @arr _ _ _ _ n sp sg => have h3 := hdrA_mod n sp sg; simp only [List.cons.injEq] at he; omega
    | @obj _ _ _ _ n sg => have h3 := hdrO_mod n sg; simp only [List.cons.injEq] at he; omega
  | ident h1 h1' bk =>
    intro ws' lo' hi' d' h2 he hs w1 l l' ha ha' hb hb'
    cases h2 with
    | missing => simp at he
    | ident h2 h2' bk' => exact dist_ident _ _ _ _ _ (by omega) (ha.bk bk h1 h1' (by decide)) (ha'.bk bk' h2 h2' (by decide))
    | @arr _ _ _ _ n sp sg => have h3 := hdrA_mod n sp sg; simp only [List.cons.injEq] at he; omega
    | @obj _ _ _ _ n sg => have h3 := hdrO_mod n sg; simp only [List.cons.injEq] at he; omega
  | @arr lo hi q K n0 sp sg its n15 hlen hsp bk q1 q2 k1 k2 row rng spr kind kids ih =>
    intro ws' lo' hi' d' h2 he hs w1 l l' ha ha' hb hb'
    have h3 := hdrA_mod n0 sp sg
    cases h2 with
    | missing => simp only [List.cons.injEq] at he; omega
    | ident => simp only [List.cons.injEq] at he; omega
    | @arr _ _ _ _ n' sp' sg' its' n15' hlen' hsp' bk' q1' q2' k1' k2' row' rng' spr' kind' kids' =>
      simp only [List.cons.injEq] at he
      obtain ⟨rfl, rfl, rfl⟩ := hdrA_inj n15 n15' he.1
      have hm : its.map Xi.ws = its'.map Xi.ws := by
        refine flat_pre _ _ [] [] (by simp [hlen, hlen']) ?_ (by have h4 := he.2; unfold wsX at h4; rw [List.flatMap_def, List.flatMap_def] at h4; rw [h4])
        intro i u v hu hv a b huv
        obtain ⟨x, hx, rfl⟩ := get_map hu
        obtain ⟨y, hy, rfl⟩ := get_map hv
        exact (kids i x hx).pre (kids' i y hy) a b huv
      obtain ⟨f, hr, hf⟩ := row
      obtain ⟨f', hr', hf'⟩ := row'
      refine dist_arr w1 _ _ _ _ n0 _ _ f f' l l' (by omega) (by omega) n15 (ha.bk bk q1 q2 (by decide)) (ha'.bk bk' q1' q2' (by decide)) (hr.move fun cs hb => ha.bk hb k1 k2 (by decide)) (hr'.move fun cs hb => ha'.bk hb k1' k2' (by decide)) ?_
      intro i hi2 w2 hb2
      obtain ⟨x, hx⟩ := get_some hlen hi2
      obtain ⟨y, hy⟩ := get_some hlen' hi2
      have a2 : AgreeT lo hi w w2 := ha.trans (agreeT_below hb2 hb)
      have a2' : AgreeT lo' hi' w w2 := ha'.trans (agreeT_below hb2 hb')
      have z2 := hb2.size
      have g1 := rng i x hx
      have g2 := rng' i y hy
      have hk : ∀ (m m' : Int) (w3 : World), Below w2.heap.size w2 w3 → Calls Try.prog 12 #[.agg #[x.d, .int .i32 m], .agg #[y.d, .int .i32 m']] w3 (Yes w3) := fun m m' w3 h3 =>
        ih i x hx (kids' i y hy) (map_same hm hx hy) (by omega) w3 m m' ((a2.trans (agreeT_below h3 (by omega))).sub g1.1 g1.2) ((a2'.trans (agreeT_below h3 (by omega))).sub g2.1 g2.2) (by have := h3.size; omega) (by have := h3.size; omega)
      rw [(hf i x hx).1, (hf i x hx).2, (hf' i y hy).1, (hf' i y hy).2]
      by_cases hls : sp = true ∧ i + 1 = n0
      · rw [if_pos hls, if_pos hls]
        have s1 := spr i x hx hls.1 hls.2
        have s2 := spr' i y hy hls.1 hls.2
        exact dist_spread w2 _ _ _ _ (by omega) x.d y.d (.int .i32 x.l) (.int .i32 y.l) (a2.bk s1.2.2 s1.1 s1.2.1 (by decide)) (a2'.bk s2.2.2 s2.1 s2.2.1 (by decide)) (fun w3 h3 => hk _ _ w3 h3)
      · rw [if_neg hls, if_neg hls]; exact hk _ _ w2 (Below.refl _ _)
    | @obj _ _ _ _ n sg => have h4 := hdrO_mod n sg; simp only [List.cons.injEq] at he; omega
  | @obj lo hi q K n0 sg its n15 hlen bk q1 q2 k1 k2 row rng kids ih =>
    intro ws' lo' hi' d' h2 he hs w1 l l' ha ha' hb hb'
    have h3 := hdrO_mod n0 sg
    cases h2 with
    | missing => simp only [List.cons.injEq] at he; omega
    | ident => simp only [List.cons.injEq] at he; omega
    | @arr _ _ _ _ n sp sg => have h4 := hdrA_mod n sp sg; simp only [List.cons.injEq] at he; omega
    | @obj _ _ _ _ n' sg' its' n15' hlen' bk' q1' q2' k1' k2' row' rng' kids' =>
      simp only [List.cons.injEq] at he
      obtain ⟨rfl, rfl⟩ := hdrO_inj n15 n15' he.1
      have hm : (its.map fun it : Ko => it.pt :: it.ws) = its'.map fun it : Ko => it.pt :: it.ws := by
        refine flat_pre _ _ [] [] (by simp [hlen, hlen']) ?_ (by have h4 := he.2; unfold wsO at h4; rw [List.flatMap_def, List.flatMap_def] at h4; rw [h4])
        intro i u v hu hv a b huv
        obtain ⟨x, hx, rfl⟩ := get_map hu
        obtain ⟨y, hy, rfl⟩ := get_map hv
        simp only [List.cons_append, List.cons.injEq] at huv
        rw [huv.1, (kids i x hx).pre (kids' i y hy) a b huv.2]
      obtain ⟨f, hr, hf⟩ := row
      obtain ⟨f', hr', hf'⟩ := row'
      refine dist_obj w1 _ _ _ _ n0 _ _ f f' l l' (by omega) (by omega) n15 (ha.bk bk q1 q2 (by decide)) (ha'.bk bk' q1' q2' (by decide)) (hr.move fun cs hb => ha.bk hb k1 k2 (by decide)) (hr'.move fun cs hb => ha'.bk hb k1' k2' (by decide)) ?_
      intro i hi2 w2 hb2
      obtain ⟨x, hx⟩ := get_some hlen hi2
      obtain ⟨y, hy⟩ := get_some hlen' hi2
      have a2 : AgreeT lo hi w w2 := ha.trans (agreeT_below hb2 hb)
      have a2' : AgreeT lo' hi' w w2 := ha'.trans (agreeT_below hb2 hb')
      have z2 := hb2.size
      have g1 := rng i x hx
      have g2 := rng' i y hy
      have hk : ∀ (m m' : Int) (w3 : World), Below w2.heap.size w2 w3 → Calls Try.prog 12 #[.agg #[x.d, .int .i32 m], .agg #[y.d, .int .i32 m']] w3 (Yes w3) := fun m m' w3 h3 =>
        ih i x hx (kids' i y hy) (by have h5 := map_same hm hx hy; simp only [List.cons.injEq] at h5; exact h5.2) (by omega) w3 m m' ((a2.trans (agreeT_below h3 (by omega))).sub g1.1 g1.2) ((a2'.trans (agreeT_below h3 (by omega))).sub g2.1 g2.2) (by have := h3.size; omega) (by have := h3.size; omega)
      obtain ⟨-, -, -, e3, e4, -⟩ := hf i x hx
      obtain ⟨-, -, -, e3', e4', -⟩ := hf' i y hy
      rw [e3, e4, e3', e4']
      exact hk _ _ w2 (Below.refl _ _)

end Go.Proofs.Ytokkndnicpgdkaa
