/-
  What an expression looks like in memory, and what a tree in memory is good for; no statement of its own.
-/
import Derived.Test.YtokkndnicpgdkaaRows
import Derived.WalkKit
import Derived.ProofKit
import Derived.OpenShut
import Derived.Test.YtokkndnicpgdkaaSlW
import Derived.Test.YtokkndnicpgdkaaLbA
import Derived.Test.YtokkndnicpgdkaaLbR
import Derived.WalkLawsBesides
import Derived.WalkSpells
import Derived.Below
import Derived.Lib.Hide
namespace Go.Proofs.Ytokkndnicpgdkaa
open Go.ChangeShapes Go.WideShapes Go.ChangeAt Go.RowKit

set_option linter.unusedVariables false

/-- An item of an array expression: the node, or a spread around it. -/
structure Xi where
  T : TypeId
  g : Nat
  l : Nat
  lo : Nat
  hi : Nat
  ws : List Nat
  s : Nat
def Xi.d (x : Xi) : Value := .iface x.T (ptr x.g)
def wsX (its : List Xi) : List Nat := its.flatMap Xi.ws
/-- The row of an array expression: item i is a node, the last one a spread where sp. -/
def RowX (w : World) (K n0 : Nat) (sp : Bool) (its : List Xi) : Prop := ∃ f, Rw w K 42 n0 2 f ∧ ∀ i x, its[i]? = some x → f i 0 = (if sp = true ∧ i + 1 = n0 then .iface 89 (ptr x.s) else x.d) ∧ f i 1 = .int .i32 (x.l : Int)
/-- A property: its word, its key's place and blocks, and the child: node, location, blocks, words. -/
structure Ko where
  T : TypeId
  g : Nat
  l : Nat
  lo : Nat
  hi : Nat
  ws : List Nat
  pt : Nat
  kl : Nat
  kg : Nat
  dg : Nat
def Ko.d (it : Ko) : Value := .iface it.T (ptr it.g)
def wsO (its : List Ko) : List Nat := its.flatMap fun it => it.pt :: it.ws
def fb (m : Nat) : Nat := floatOfInt .f64 (m : Int)
def hdrO (n0 : Nat) (sg : Bool) : Nat := 3 + 4 * n0 + (if sg then 128 else 0)
def dfO (pt : Nat) : Bool := decide (pt / 4 % 2 = 1)
abbrev Num : Nat → Value := fun g => .iface 65 (ptr g)
def hdrA (n0 : Nat) (sp sg : Bool) : Nat := 2 + 4 * n0 + (if sp then 64 else 0) + (if sg then 128 else 0)
def FldO (f : Nat → Nat → Value) (i : Nat) (it : Ko) : Prop := f i 0 = .pointer none ∧ f i 1 = Num it.kg ∧ f i 2 = .int .i32 (it.kl : Int) ∧ f i 3 = it.d ∧ f i 4 = .int .i32 (it.l : Int) ∧ f i 5 = (if dfO it.pt then Num it.dg else .nilIface) ∧ f i 6 = .int .i32 (if dfO it.pt then (it.kl : Int) else 0) ∧ f i 7 = .slice none 0 0 ∧ f i 8 = .int .i32 0 ∧ f i 9 = .int .i32 0 ∧
  f i 10 = .int .u8 (if it.pt % 2 = 1 then 5 else 0) ∧ f i 11 = .int .u8 (if it.pt / 2 % 2 = 1 then 1 else 0)
/-- The row of an object expression. -/
def RowP (w : World) (K n0 : Nat) (its : List Ko) : Prop := ∃ f, Rw w K 102 n0 12 f ∧ ∀ i it, its[i]? = some it → FldO f i it
/-- How the expression d looks, whose stream is ws, in the blocks lo .. hi. -/
inductive Shp (w : World) : List Nat → Nat → Nat → Value → Prop
  | missing {lo hi g : Nat} : Shp w [0] lo hi (.iface 83 (ptr g))
  | ident {lo hi q x : Nat} {cs : Array Value} (h1 : lo ≤ q) (h2 : q < hi) (hb : Bk w q 87 cs) : Shp w [4 * x + 1] lo hi (.iface 85 (ptr q))
  | arr {lo hi q K n0 : Nat} {sp sg : Bool} {its : List Xi} (n15 : n0 ≤ 15) (hlen : its.length = n0) (hsp : sp = true → 0 < n0) (bk : Bk w q 95 #[.slice (some ⟨K, 0, none⟩) n0 n0, .int .i32 0, .int .i32 0, .bool sg, .bool false]) (q1 : lo ≤ q) (q2 : q < hi) (k1 : lo ≤ K) (k2 : K < hi) (row : RowX w K n0 sp its)
      (rng : ∀ (i : Nat) (x : Xi), its[i]? = some x → lo ≤ x.lo ∧ x.hi ≤ hi) (spr : ∀ (i : Nat) (x : Xi), its[i]? = some x → sp = true → i + 1 = n0 → lo ≤ x.s ∧ x.s < hi ∧ Bk w x.s 91 #[x.d, .int .i32 (x.l : Int)]) (kind : ∀ (i : Nat) (x : Xi), its[i]? = some x → x.T ≠ 89) (kids : ∀ (i : Nat) (x : Xi), its[i]? = some x → Shp w x.ws x.lo x.hi x.d) : Shp w (hdrA n0 sp sg :: wsX its) lo hi (.iface 93 (ptr q))
  | obj {lo hi q K n0 : Nat} {sg : Bool} {its : List Ko} (n15 : n0 ≤ 15) (hlen : its.length = n0) (bk : Bk w q 105 #[.slice (some ⟨K, 0, none⟩) n0 n0, .int .i32 0, .int .i32 0, .bool sg, .bool false]) (q1 : lo ≤ q) (q2 : q < hi) (k1 : lo ≤ K) (k2 : K < hi) (row : RowP w K n0 its)
      (rng : ∀ (i : Nat) (x : Ko), its[i]? = some x → lo ≤ x.lo ∧ x.hi ≤ hi) (kids : ∀ (i : Nat) (x : Ko), its[i]? = some x → Shp w x.ws x.lo x.hi x.d) : Shp w (hdrO n0 sg :: wsO its) lo hi (.iface 103 (ptr q))
theorem RowX.to {w w' : World} {K n0 : Nat} {sp : Bool} {its : List Xi} (h : RowX w K n0 sp its) (hk : ∀ cs, Bk w K 42 cs → Bk w' K 42 cs) : RowX w' K n0 sp its := by obtain ⟨f, h1, h2⟩ := h; exact ⟨f, h1.move hk, h2⟩
theorem Shp.agree {w w' : World} {ws : List Nat} {lo hi : Nat} {d : Value} (h : Shp w ws lo hi d) : AgreeT lo hi w w' → Shp w' ws lo hi d := by
  induction h with
  | missing => exact fun _ => .missing
  | ident h1 h2 hb => exact fun ha => .ident h1 h2 (ha.bk hb h1 h2 (by decide))
  | arr n15 hlen hsp bk q1 q2 k1 k2 row rng spr kind kids ih =>
    intro ha
    refine .arr n15 hlen hsp (ha.bk bk q1 q2 (by decide)) q1 q2 k1 k2 ?_ rng (fun i x hx h1 h2 => ⟨(spr i x hx h1 h2).1, (spr i x hx h1 h2).2.1, ha.bk (spr i x hx h1 h2).2.2 (spr i x hx h1 h2).1 (spr i x hx h1 h2).2.1 (by decide)⟩) kind (fun i x hx => ih i x hx (ha.sub (rng i x hx).1 (rng i x hx).2))
    obtain ⟨f, h1, h2⟩ := row
    exact ⟨f, h1.move fun cs hb => ha.bk hb k1 k2 (by decide), h2⟩
  | obj n15 hlen bk q1 q2 k1 k2 row rng kids ih =>
    intro ha
    refine .obj n15 hlen (ha.bk bk q1 q2 (by decide)) q1 q2 k1 k2 ?_ rng (fun i x hx => ih i x hx (ha.sub (rng i x hx).1 (rng i x hx).2))
    obtain ⟨f, h1, h2⟩ := row
    exact ⟨f, h1.move fun cs hb => ha.bk hb k1 k2 (by decide), h2⟩
/-- On this expression the serialiser writes ws, in whatever later world in which the blocks lo0 .. hi0 (the pattern's) and lo .. hi (its own) are as they were. -/
def Ser0 (lo0 hi0 lo hi : Nat) (w : World) (d : Value) (l : Nat) (ws : List Nat) : Prop := ∀ B va vc xs w1, (hi0 ≤ B ∧ AgreeT lo0 hi0 w w1) → hi ≤ B → B ≤ w1.heap.size → AgreeT lo hi w w1 → w1.ownsRow B 48 1 (.slice va xs.length vc) xs.length (words xs) → xs.length = l → xs.length + ws.length ≤ 1000000 →
  Calls Try.prog 9 #[.agg #[d, .int .i32 (l : Int)], .slice va xs.length vc] w1 fun e w' => ∃ a k, e = .returned (.tuple #[.slice a (xs ++ ws).length k, .bool true]) ∧ w'.ownsRow B 48 1 (.slice a (xs ++ ws).length k) (xs ++ ws).length (words (xs ++ ws)) ∧ Below B w1 w'
/-- The same, and how the expression looks. -/
def Ser (lo0 hi0 lo hi : Nat) (w : World) (d : Value) (l : Nat) (ws : List Nat) : Prop := Ser0 lo0 hi0 lo hi w d l ws ∧ Shp w ws lo hi d
/-- What the conversion answers. -/
def Cvd (lo hi l : Nat) (ws : List Nat) (w1 : World) (e : Ending) (w' : World) : Prop := ∃ T g, e = .returned (.agg #[.iface T (ptr g), .int .i32 (l : Int)]) ∧ Below w1.heap.size w1 w' ∧ T ≠ 89 ∧ Hid (Ser lo hi w1.heap.size w'.heap.size w' (.iface T (ptr g)) l ws)
/-- On this binding the conversion makes an expression on which the serialiser writes ws. -/
def Conv0 (lo hi : Nat) (w : World) (d : Value) (l : Nat) (ws : List Nat) : Prop := ∀ w1, AgreeT lo hi w w1 → hi ≤ w1.heap.size → Calls Try.prog 8 #[.agg #[d, .int .i32 (l : Int)], .nilFunc] w1 (Cvd lo hi l ws w1)
/-- On this binding the first serialiser of bindings writes ws. -/
def SerB (lo hi : Nat) (w : World) (d : Value) (l : Nat) (ws : List Nat) : Prop := ∀ B va vc xs w1, hi ≤ B → B ≤ w1.heap.size → AgreeT lo hi w w1 → w1.ownsRow B 48 1 (.slice va xs.length vc) xs.length (words xs) → xs.length + ws.length ≤ 1000000 →
  Calls Try.prog 6 #[.agg #[d, .int .i32 (l : Int)], .slice va xs.length vc] w1 fun e w' => ∃ a k, e = .returned (.tuple #[.slice a (xs ++ ws).length k, .bool true]) ∧ w'.ownsRow B 48 1 (.slice a (xs ++ ws).length k) (xs ++ ws).length (words (xs ++ ws)) ∧ Below B w1 w'
/-- Numbers, as they stand in memory. -/
def nums (xs : List Nat) : List Value := xs.map fun x : Nat => Value.int .i64 (x : Int)
theorem nums_app (xs ys : List Nat) : nums (xs ++ ys) = nums xs ++ nums ys := by unfold nums; rw [List.map_append]
theorem nums_len (xs : List Nat) : (nums xs).length = xs.length := by simp [nums]
theorem info_n : (Try.prog.info? 2).map (fun i => (i.zero, i.size, i.bytes)) = some (some (.int .i64 0), 1, 8) := by kernel_rfl
/-- On this binding the second serialiser of bindings writes fs. -/
def Full (lo hi : Nat) (w : World) (d : Value) (l : Nat) (fs : List Nat) : Prop := ∀ B va vc xs w1, hi ≤ B → B ≤ w1.heap.size → AgreeT lo hi w w1 → w1.ownsRow B 2 1 (.slice va xs.length vc) xs.length (nums xs) → xs.length + fs.length ≤ 20000000 → l ≤ 1000000 →
  Calls Try.prog 7 #[.agg #[d, .int .i32 (l : Int)], .slice va xs.length vc] w1 fun e w' => ∃ a k, e = .returned (.tuple #[.slice a (xs ++ fs).length k, .bool true]) ∧ w'.ownsRow B 2 1 (.slice a (xs ++ fs).length k) (xs ++ fs).length (nums (xs ++ fs)) ∧ Below B w1 w'
/-- The conversion, and the two serialisers of bindings. -/
def Conv (lo hi : Nat) (w : World) (d : Value) (l : Nat) (ws : List Nat) : Prop := Conv0 lo hi w d l ws ∧ SerB lo hi w d l ws ∧ ∃ fs : List Nat, fs.length + 2 ≤ 16 * ws.length ∧ Full lo hi w d l fs
theorem Ser0.agree {lo0 hi0 lo hi : Nat} {w w' : World} {d : Value} {l : Nat} {ws : List Nat} (h : Ser0 lo0 hi0 lo hi w d l ws) (h0 : AgreeT lo0 hi0 w w') (ha : AgreeT lo hi w w') : Ser0 lo0 hi0 lo hi w' d l ws := fun B va vc xs w1 k0 h1 h2 h3 h4 h5 h6 => h B va vc xs w1 ⟨k0.1, h0.trans k0.2⟩ h1 h2 (ha.trans h3) h4 h5 h6
theorem Ser.agree {lo0 hi0 lo hi : Nat} {w w' : World} {d : Value} {l : Nat} {ws : List Nat} (h : Ser lo0 hi0 lo hi w d l ws) (h0 : AgreeT lo0 hi0 w w') (ha : AgreeT lo hi w w') : Ser lo0 hi0 lo hi w' d l ws := ⟨h.1.agree h0 ha, h.2.agree ha⟩
theorem Ser.wide {lo0 hi0 lo0' hi0' lo hi : Nat} {w : World} {d : Value} {l : Nat} {ws : List Nat} (h : Ser lo0 hi0 lo hi w d l ws) (h1 : lo0' ≤ lo0) (h2 : hi0 ≤ hi0') : Ser lo0' hi0' lo hi w d l ws := ⟨fun B va vc xs w1 k0 => h.1 B va vc xs w1 ⟨by omega, k0.2.sub h1 h2⟩, h.2⟩
theorem SerB.agree {lo hi : Nat} {w w' : World} {d : Value} {l : Nat} {ws : List Nat} (h : SerB lo hi w d l ws) (ha : AgreeT lo hi w w') : SerB lo hi w' d l ws := fun B va vc xs w1 h1 h2 h3 => h B va vc xs w1 h1 h2 (ha.trans h3)
theorem Full.agree {lo hi : Nat} {w w' : World} {d : Value} {l : Nat} {fs : List Nat} (h : Full lo hi w d l fs) (ha : AgreeT lo hi w w') : Full lo hi w' d l fs := fun B va vc xs w1 h1 h2 h3 => h B va vc xs w1 h1 h2 (ha.trans h3)
theorem Conv.agree {lo hi : Nat} {w w' : World} {d : Value} {l : Nat} {ws : List Nat} (h : Conv lo hi w d l ws) (ha : AgreeT lo hi w w') : Conv lo hi w' d l ws := ⟨fun w1 h1 h2 => h.1 w1 (ha.trans h1) h2, h.2.1.agree ha, by obtain ⟨fs, h1, h2⟩ := h.2.2; exact ⟨fs, h1, h2.agree ha⟩⟩
/-- What the parser answers. -/
def Psd (P B : Nat) (A : Option Addr) (n c pos : Nat) (cs : List Nat) (w : World) (e : Ending) (w' : World) : Prop := ∃ (T : TypeId) (g : Nat) (ws : List Nat) (pos' : Nat), e = .returned (.agg #[.iface T (ptr g), .int .i32 (cs.length : Int)]) ∧ pos ≤ pos' ∧ pos' ≤ pos + (n - pos) ∧ ws.length ≤ 1 + 30 * (pos' - pos) ∧
  Hid (PSt P B A n c pos' (cs ++ ws) w') ∧ KeepT P w w' ∧ Below B w w' ∧ Hid (Conv w.heap.size w'.heap.size w' (.iface T (ptr g)) cs.length ws)

end Go.Proofs.Ytokkndnicpgdkaa
