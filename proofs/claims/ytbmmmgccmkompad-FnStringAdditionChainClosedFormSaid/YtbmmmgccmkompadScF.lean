/-
  The laws' comparison of nodes, and the exported name of the function; no statement of its own.
-/
import Derived.Test.YtbmmmgccmkompadRows
import Derived.WalkKit
import Derived.ProofKit
import Derived.OpenShut
import Derived.Test.YtbmmmgccmkompadSlW
import Derived.Test.YtbmmmgccmkompadScA
import Derived.Test.YtbmmmgccmkompadScB
import Derived.Test.YtbmmmgccmkompadScC
import Derived.WalkLawsBesides
import Derived.WalkSpells
import Derived.Below
import Derived.Lib.Hide
import Derived.Outline
import Derived.LaidEql
namespace Go.Proofs.Ytbmmmgccmkompad
open Go.ChangeShapes Go.WideShapes Go.ChangeAt Go.RowKit

set_option linter.unusedVariables false

theorem ptr_ty {T : TypeId} (hT : okT T) : ∃ te j, Try.prog.underlying T = some (.pointer te) ∧ Try.prog.info? te = some j ∧ j.size ≠ 0 := by
  obtain ⟨te, i, j, h1, h2, h3, h4, h5⟩ := ptr_parts T hT
  exact ⟨te, j, h1, h4, h5⟩
theorem eqlP {T : TypeId} (hT : okT T) (a : Addr) (w : World) : (binOp .eql T (.pointer (some a)) (.pointer (some a))).run Try.prog w = .ok (.bool true) w := by
  obtain ⟨te, j, h1, h2, h3⟩ := ptr_ty hT
  have h : ∀ d, (Op.equalIn (d + 1) T (.pointer (some a)) (.pointer (some a))).run Try.prog w = .ok true w := fun d => by simp [Op.equalIn, run_underlying h1, typeInfo, sizeOf, h2, run_sameAddr_same]
  simp only [binOp]
  simp [Op.equal, Op.maxDepth, h 9999]
theorem neqP {T : TypeId} (hT : okT T) (a : Addr) (w : World) : (binOp .neq T (.pointer (some a)) (.pointer (some a))).run Try.prog w = .ok (.bool false) w := by
  obtain ⟨te, j, h1, h2, h3⟩ := ptr_ty hT
  have h : ∀ d, (Op.equalIn (d + 1) T (.pointer (some a)) (.pointer (some a))).run Try.prog w = .ok true w := fun d => by simp [Op.equalIn, run_underlying h1, typeInfo, sizeOf, h2, run_sameAddr_same]
  simp only [binOp]
  simp [Op.equal, Op.maxDepth, h 9999]
theorem neqQ {T : TypeId} (hT : okT T) (g g' : Nat) (w : World) (t t' : TypeId) (cs cs' : Array Value) (h : Bk w g t cs) (h' : Bk w g' t' cs') (hne : g ≠ g') : (binOp .neq T (ptr g) (ptr g')).run Try.prog w = .ok (.bool true) w := by
  obtain ⟨te, j, h1, h2, h3⟩ := ptr_ty hT
  have := run_sameAddr_other (P := Try.prog) w (a := ⟨g, 0, none⟩) (b := ⟨g', 0, none⟩) (by simp) h h'
  have e : ∀ d, (Op.equalIn (d + 1) T (ptr g) (ptr g')).run Try.prog w = .ok false w := fun d => by simp [Op.equalIn, run_underlying h1, typeInfo, sizeOf, h2, h3, this]
  simp only [binOp]
  simp [Op.equal, Op.maxDepth, e 9999]
theorem guardL0 : Try.prog.eqGuardType Try.prog.depth 32 = false := by kernel_rfl
set_option maxRecDepth 100000 in
set_option maxHeartbeats 2000000 in
theorem same_any (T : TypeId) (g : Nat) (l : Int) (w : World) (hT : okT T) : Calls Try.prog 7 #[.agg #[.iface T (ptr g), .int .i32 l], .agg #[.iface T (ptr g), .int .i32 l]] w (Same w (.bool true)) := by
  have hs := fun w : World => eqlP hT ⟨g, 0, none⟩ w
  have eg := fun (x y : Operand) (w : World) => run_eqGuard_agg (P := Try.prog) w .neq 32 x y #[.int .i32 l] #[.int .i32 l] guardL0
  rcases hT with rfl | rfl | rfl
  all_goals
    go_enter Try.func7, Try.ntmps7
    go_wp2_with fail
    go_ret
    refine ⟨rfl, ?_⟩
    repeat (with_reducible first | exact Below.refl _ _ | refine Below.alloc ?_ (by first | (simp; done) | (simp <;> omega) | omega) _)
set_option maxRecDepth 100000 in
set_option maxHeartbeats 2000000 in
theorem export_any (ls : Bool) (rs : List Int) (D : Nat → Value) (G Q : Nat → Nat) (m : Nat) (w : World) (h : Tree w ls rs D G Q m) :
    Calls Try.prog 6 #[.agg #[D m, .int .i32 (loc m)]] w (Res ls rs D Q m w) := by
  have KK := Lib.hid fun w1 (hb : Below w.heap.size w w1) => chain_any ls rs D G Q m w1 (h.later hb)
  obtain ⟨T, g, t, cs, hd, -, -⟩ := h.shape
  have HD := Lib.hid hd
  clear h
  rw [hd] at KK ⊢
  clear hd
  go_enter Try.func6, Try.ntmps6
  go_wp2_with fail
  refine (KK.out _ (((Below.refl _ _).alloc (Nat.le_refl _) _).alloc (by simp) _)).mono ?_
  rintro e w1 ⟨hb, hr⟩
  obtain ⟨⟨a0, a1, a2, a3⟩, ⟨b0, b1, b2, b3⟩, z1, bl, bx0, bx1⟩ := two_boxes (by simpa using hb)
  have z0 : w.heap.size < w1.heap.size := by omega
  have BL := Lib.hid bl
  have BX := Lib.hid bx1
  clear hb bl bx0 bx1
  rcases hr with ⟨hst, rfl⟩ | ⟨hst, d, l, rfl, hch⟩
  · have HS := Lib.hid hst
    have hd := HD.out
    clear hst
    rw [hd]
    clear hd
    go_wp2_with fail
    refine bodyPost_ret (v := .tuple #[.agg #[.iface T (ptr g), .int .i32 (loc m)], .bool false]) (by simp [results, Try.results6, go_sem, *]) rfl ⟨?_, .inl ⟨HS.out, by rw [HD.out]⟩⟩
    repeat (with_reducible first | exact BL.out | refine Below.setCell ?_ (by first | (simp; done) | (simp <;> omega)) _)
  · have HS := Lib.hid hst
    have HC := Lib.hid hch
    obtain ⟨T', g', t', cs', rfl, -, -, -⟩ := hch.shape
    clear hst hch
    go_wp2_with fail
    refine bodyPost_ret (v := .tuple #[.agg #[.iface T' (ptr g'), .int .i32 l], .bool true]) (by simp [results, Try.results6, go_sem, *]) rfl ⟨?_, .inr ⟨HS.out, _, _, rfl, ?_⟩⟩
    · repeat (with_reducible first | exact BL.out | refine Below.setCell ?_ (by first | (simp; done) | (simp <;> omega)) _)
    · refine HC.out.move (by simp; omega) fun q t cs ht h => ?_
      have a2 : q ≠ w.heap.size + 1 := h.ne BX.out (by rcases ht with h | h | h <;> subst h <;> decide)
      exact (h.set a2).set a2
theorem st_mono {ls : Bool} {rs : List Int} {i : Nat} (h : st ls rs i = true) : ∀ k, st ls rs (i + k) = true
  | 0 => h
  | k + 1 => st_yes (st_mono h k)
theorem st_le {ls : Bool} {rs : List Int} {i j : Nat} (h : st ls rs i = true) (hij : i ≤ j) : st ls rs j = true := by
  have := st_mono h (j - i)
  rwa [show i + (j - i) = j by omega] at this

end Go.Proofs.Ytbmmmgccmkompad
