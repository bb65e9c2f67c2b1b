/-
  No cell of these rows narrows 'for every input' (looked for: loops, veiled, ifaces, maps, wideKeys, modest, calm, conditions, laid).
  DERIVED. THE GIVEN ROWS OF THIS SEAT. 3 by the template 'for every input the law returns true; each argument reads behind the call as it read before'; 0 by the template 'total and deterministic' (their statements: YthcjcafillcikaaTotals.lean).
  GIVEN WITH THE SEED: the statements are not yours to turn. If you find one false, say at which input.
  Laid BY PROGRAM, IN A SANDBOX (cutbox-rows.mjs): the forced cells as the released guide's own fill.sh prints them over the translation 05795ca0729dca93… (all of the seat's roots in one cut). By AI agents, Wed Nov 11 2026. No macro, syntax, notation, axiom, sorry.
-/
import Derived.Test.YthcjcafillcikaaChecked
import GoSem.Claim
import GoSem.ClaimJoined
import GoSem.ClaimMapViews
import Derived.JoinedTies
import Derived.KernelRfl
namespace Go.Proofs.Ythcjcafillcikaa
/- THE CELL 'sum', in the pinned program and in every row, IS THE sha256 OF THE DUMP (.gsa) THAT YthcjcafillcikaaProg.lean LOADS. Nothing in Lean hashes anything: it is a label: what it is worth is what the hold of that sum in a sandbox is worth. -/
noncomputable def Try.pinned : Pinned := { name := "ythcjcafillcikaa", sum := "05795ca0729dca9344b4ce215881f56d420a93b53664502c10ffff979352d5fa", checked := Try.checked }
namespace Rows
def none {H : Type} : Left H := { results := [], args := [] }

/-- 'n011_294.FnIsInt32OrUint32MirrorAndTestFree': WHATEVER THE INPUT: true; the input reads as it did. -/
def fnIsInt32OrUint32MirrorAndTestFreeSpec : ChangeSpec := { name := "fnIsInt32OrUint32MirrorAndTestFree", fn := fun _ => fun
  | [d] => { results := [.lit (.bool true)], args := [d] }
  | _ => none }
def fnIsInt32OrUint32MirrorAndTestFreeRow : OpenClaim := { program := "ythcjcafillcikaa", sum := "05795ca0729dca9344b4ce215881f56d420a93b53664502c10ffff979352d5fa", func := "github.com/evanw/esbuild/n011_294.FnIsInt32OrUint32MirrorAndTestFree", spec := "fnIsInt32OrUint32MirrorAndTestFree", recurses := true, apart := false }
def FnIsInt32OrUint32MirrorAndTestFreeSaid : Prop := fnIsInt32OrUint32MirrorAndTestFreeRow.holds Try.pinned (OpenSpec.ofChange fnIsInt32OrUint32MirrorAndTestFreeSpec)

/-- ITS FALSE NEIGHBOUR: 'it returns false'. Refute it at one input. -/
def fnIsInt32OrUint32MirrorAndTestFreeWrong : ChangeSpec := { name := "fnIsInt32OrUint32MirrorAndTestFree", fn := fun _ => fun
  | [d] => { results := [.lit (.bool false)], args := [d] }
  | _ => none }
def FnIsInt32OrUint32MirrorAndTestFreeWrongFalsely : Prop := fnIsInt32OrUint32MirrorAndTestFreeRow.holds Try.pinned (OpenSpec.ofChange fnIsInt32OrUint32MirrorAndTestFreeWrong)

/-- 'n011_168.FnValuesLookTheSameOnAccessChainsComparesRootAndKeys': WHATEVER THE INPUT: true; the input reads as it did. -/
def fnValuesLookTheSameOnAccessChainsComparesRootAndKeysSpec : ChangeSpec := { name := "fnValuesLookTheSameOnAccessChainsComparesRootAndKeys", fn := fun _ => fun
  | [d1, d2, d3, d4, d5, d6] => { results := [.lit (.bool true)], args := [d1, d2, d3, d4, d5, d6] }
  | _ => none }
def fnValuesLookTheSameOnAccessChainsComparesRootAndKeysRow : OpenClaim := { program := "ythcjcafillcikaa", sum := "05795ca0729dca9344b4ce215881f56d420a93b53664502c10ffff979352d5fa", func := "github.com/evanw/esbuild/n011_168.FnValuesLookTheSameOnAccessChainsComparesRootAndKeys", spec := "fnValuesLookTheSameOnAccessChainsComparesRootAndKeys", inPlace := ["math.Float64bits"], recurses := true, apart := false }
def FnValuesLookTheSameOnAccessChainsComparesRootAndKeysSaid : Prop := fnValuesLookTheSameOnAccessChainsComparesRootAndKeysRow.holds Try.pinned (OpenSpec.ofChange fnValuesLookTheSameOnAccessChainsComparesRootAndKeysSpec)

/-- ITS FALSE NEIGHBOUR: 'it returns false'. Refute it at one input. -/
def fnValuesLookTheSameOnAccessChainsComparesRootAndKeysWrong : ChangeSpec := { name := "fnValuesLookTheSameOnAccessChainsComparesRootAndKeys", fn := fun _ => fun
  | [d1, d2, d3, d4, d5, d6] => { results := [.lit (.bool false)], args := [d1, d2, d3, d4, d5, d6] }
  | _ => none }
def FnValuesLookTheSameOnAccessChainsComparesRootAndKeysWrongFalsely : Prop := fnValuesLookTheSameOnAccessChainsComparesRootAndKeysRow.holds Try.pinned (OpenSpec.ofChange fnValuesLookTheSameOnAccessChainsComparesRootAndKeysWrong)

/-- 'n011_259.FnToBooleanLiteralTable': WHATEVER THE INPUT: true; the input reads as it did. -/
def fnToBooleanLiteralTableSpec : ChangeSpec := { name := "fnToBooleanLiteralTable", fn := fun _ => fun
  | [d1, d2, d3, d4] => { results := [.lit (.bool true)], args := [d1, d2, d3, d4] }
  | _ => none }
def fnToBooleanLiteralTableRow : OpenClaim := { program := "ythcjcafillcikaa", sum := "05795ca0729dca9344b4ce215881f56d420a93b53664502c10ffff979352d5fa", func := "github.com/evanw/esbuild/n011_259.FnToBooleanLiteralTable", spec := "fnToBooleanLiteralTable", recurses := true, apart := false }
def FnToBooleanLiteralTableSaid : Prop := fnToBooleanLiteralTableRow.holds Try.pinned (OpenSpec.ofChange fnToBooleanLiteralTableSpec)

/-- ITS FALSE NEIGHBOUR: 'it returns false'. Refute it at one input. -/
def fnToBooleanLiteralTableWrong : ChangeSpec := { name := "fnToBooleanLiteralTable", fn := fun _ => fun
  | [d1, d2, d3, d4] => { results := [.lit (.bool false)], args := [d1, d2, d3, d4] }
  | _ => none }
def FnToBooleanLiteralTableWrongFalsely : Prop := fnToBooleanLiteralTableRow.holds Try.pinned (OpenSpec.ofChange fnToBooleanLiteralTableWrong)

/- THE SECOND FORM. 'bulk': how many values and letters a reading holds, each counted each time it is reached (what is shared counts as often as it is met; a slice's spare places count too). A statement '..UptoSaid' is the law's where the arguments, and the package variables that the reading takes, are together of bulk at most 1048576: NARROWER than '..Said'. Prove '..Said' where nothing that the law and all that it calls make is longer than what came in: it says more and counts as full. Else prove '..UptoSaid'. A law counts once. -/
mutual
def uptoBulk {H : Type} : DataW H → Nat
  | .lit (.string bytes) => bytes.length + 1
  | .lit _ => 1
  | .nil => 1
  | .ptr d => uptoBulk d + 1
  | .slice elems spare => uptoBulkAll elems + uptoBulkAll spare + 1
  | .agg parts => uptoBulkAll parts + 1
  | .iface _ d => uptoBulk d + 1
  | .map entries => uptoBulkEntries entries + 1
  | .held _ => 1
def uptoBulkAll {H : Type} : List (DataW H) → Nat
  | [] => 0
  | d :: r => uptoBulk d + uptoBulkAll r
def uptoBulkEntries {H : Type} : List (Lit × DataW H) → Nat
  | [] => 0
  | x :: r => uptoBulkEntry x + uptoBulkEntries r
def uptoBulkEntry {H : Type} : Lit × DataW H → Nat
  | (.string bytes, d) => bytes.length + uptoBulk d + 1
  | (_, d) => uptoBulk d + 1
 end
def uptoSmall : (H : Type) → List (DataW H) → Bool := fun _ ds => decide (uptoBulkAll ds ≤ 1048576)
def OpenSpec.upto (s : _root_.Go.ChangeSpec) : _root_.Go.OpenSpec := { _root_.Go.OpenSpec.ofChange s with cond := some uptoSmall }

/-- 'n011_294.FnIsInt32OrUint32MirrorAndTestFree', WHERE WHAT IT READS IS OF BULK AT MOST 1048576: true; the input reads as it did. -/
def fnIsInt32OrUint32MirrorAndTestFreeUptoRow : OpenClaim := { program := "ythcjcafillcikaa", sum := "05795ca0729dca9344b4ce215881f56d420a93b53664502c10ffff979352d5fa", func := "github.com/evanw/esbuild/n011_294.FnIsInt32OrUint32MirrorAndTestFree", spec := "fnIsInt32OrUint32MirrorAndTestFree", recurses := true, apart := false, narrowed := true }
def FnIsInt32OrUint32MirrorAndTestFreeUptoSaid : Prop := fnIsInt32OrUint32MirrorAndTestFreeUptoRow.holds Try.pinned (OpenSpec.upto fnIsInt32OrUint32MirrorAndTestFreeSpec)

/-- 'n011_168.FnValuesLookTheSameOnAccessChainsComparesRootAndKeys', WHERE WHAT IT READS IS OF BULK AT MOST 1048576: true; the input reads as it did. -/
def fnValuesLookTheSameOnAccessChainsComparesRootAndKeysUptoRow : OpenClaim := { program := "ythcjcafillcikaa", sum := "05795ca0729dca9344b4ce215881f56d420a93b53664502c10ffff979352d5fa", func := "github.com/evanw/esbuild/n011_168.FnValuesLookTheSameOnAccessChainsComparesRootAndKeys", spec := "fnValuesLookTheSameOnAccessChainsComparesRootAndKeys", inPlace := ["math.Float64bits"], recurses := true, apart := false, narrowed := true }
def FnValuesLookTheSameOnAccessChainsComparesRootAndKeysUptoSaid : Prop := fnValuesLookTheSameOnAccessChainsComparesRootAndKeysUptoRow.holds Try.pinned (OpenSpec.upto fnValuesLookTheSameOnAccessChainsComparesRootAndKeysSpec)

/-- 'n011_259.FnToBooleanLiteralTable', WHERE WHAT IT READS IS OF BULK AT MOST 1048576: true; the input reads as it did. -/
def fnToBooleanLiteralTableUptoRow : OpenClaim := { program := "ythcjcafillcikaa", sum := "05795ca0729dca9344b4ce215881f56d420a93b53664502c10ffff979352d5fa", func := "github.com/evanw/esbuild/n011_259.FnToBooleanLiteralTable", spec := "fnToBooleanLiteralTable", recurses := true, apart := false, narrowed := true }
def FnToBooleanLiteralTableUptoSaid : Prop := fnToBooleanLiteralTableUptoRow.holds Try.pinned (OpenSpec.upto fnToBooleanLiteralTableSpec)

end Rows
end Go.Proofs.Ythcjcafillcikaa
