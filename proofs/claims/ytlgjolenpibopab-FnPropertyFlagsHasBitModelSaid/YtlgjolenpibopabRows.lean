/-
  No cell of these rows narrows 'for every input' (looked for: loops, veiled, ifaces, maps, wideKeys, modest, calm, conditions, laid).
  DERIVED. THE GIVEN ROWS OF THIS SEAT. 4 by the template 'for every input the law returns true; each argument reads behind the call as it read before'; 0 by the template 'total and deterministic' (their statements: YtlgjolenpibopabTotals.lean).
  GIVEN WITH THE SEED: the statements are not yours to turn. If you find one false, say at which input.
  Laid BY PROGRAM, IN A SANDBOX (cutbox-rows.mjs): the forced cells as the released guide's own fill.sh prints them over the translation 659439bd36e04413… (all of the seat's roots in one cut). By AI agents, Wed Nov 11 2026. No macro, syntax, notation, axiom, sorry.
-/
import Derived.Test.YtlgjolenpibopabChecked
import GoSem.Claim
import GoSem.ClaimJoined
import GoSem.ClaimMapViews
import Derived.JoinedTies
import Derived.KernelRfl
namespace Go.Proofs.Ytlgjolenpibopab
/- THE CELL 'sum', in the pinned program and in every row, IS THE sha256 OF THE DUMP (.gsa) THAT YtlgjolenpibopabProg.lean LOADS. Nothing in Lean hashes anything: it is a label: what it is worth is what the hold of that sum in a sandbox is worth. -/
noncomputable def Try.pinned : Pinned := { name := "ytlgjolenpibopab", sum := "659439bd36e04413638b8078f645d140e3350925dd901fc4726f737d83a9e8d8", checked := Try.checked }
namespace Rows
def none {H : Type} : Left H := { results := [], args := [] }

/-- 'n011_205.FnPropertyFlagsHasSymmetricAndDistributes': WHATEVER THE INPUT: true; the input reads as it did. -/
def fnPropertyFlagsHasSymmetricAndDistributesSpec : ChangeSpec := { name := "fnPropertyFlagsHasSymmetricAndDistributes", fn := fun _ => fun
  | [d1, d2, d3] => { results := [.lit (.bool true)], args := [d1, d2, d3] }
  | _ => none }
def fnPropertyFlagsHasSymmetricAndDistributesRow : OpenClaim := { program := "ytlgjolenpibopab", sum := "659439bd36e04413638b8078f645d140e3350925dd901fc4726f737d83a9e8d8", func := "github.com/evanw/esbuild/n011_205.FnPropertyFlagsHasSymmetricAndDistributes", spec := "fnPropertyFlagsHasSymmetricAndDistributes", apart := false }
def FnPropertyFlagsHasSymmetricAndDistributesSaid : Prop := fnPropertyFlagsHasSymmetricAndDistributesRow.holds Try.pinned (OpenSpec.ofChange fnPropertyFlagsHasSymmetricAndDistributesSpec)

/-- ITS FALSE NEIGHBOUR: 'it returns false'. Refute it at one input. -/
def fnPropertyFlagsHasSymmetricAndDistributesWrong : ChangeSpec := { name := "fnPropertyFlagsHasSymmetricAndDistributes", fn := fun _ => fun
  | [d1, d2, d3] => { results := [.lit (.bool false)], args := [d1, d2, d3] }
  | _ => none }
def FnPropertyFlagsHasSymmetricAndDistributesWrongFalsely : Prop := fnPropertyFlagsHasSymmetricAndDistributesRow.holds Try.pinned (OpenSpec.ofChange fnPropertyFlagsHasSymmetricAndDistributesWrong)

/-- 'n011_205.FnPropertyFlagsHasBitModel': WHATEVER THE INPUT: true; the input reads as it did. -/
def fnPropertyFlagsHasBitModelSpec : ChangeSpec := { name := "fnPropertyFlagsHasBitModel", fn := fun _ => fun
  | [d1, d2] => { results := [.lit (.bool true)], args := [d1, d2] }
  | _ => none }
def fnPropertyFlagsHasBitModelRow : OpenClaim := { program := "ytlgjolenpibopab", sum := "659439bd36e04413638b8078f645d140e3350925dd901fc4726f737d83a9e8d8", func := "github.com/evanw/esbuild/n011_205.FnPropertyFlagsHasBitModel", spec := "fnPropertyFlagsHasBitModel", apart := false }
def FnPropertyFlagsHasBitModelSaid : Prop := fnPropertyFlagsHasBitModelRow.holds Try.pinned (OpenSpec.ofChange fnPropertyFlagsHasBitModelSpec)

/-- ITS FALSE NEIGHBOUR: 'it returns false'. Refute it at one input. -/
def fnPropertyFlagsHasBitModelWrong : ChangeSpec := { name := "fnPropertyFlagsHasBitModel", fn := fun _ => fun
  | [d1, d2] => { results := [.lit (.bool false)], args := [d1, d2] }
  | _ => none }
def FnPropertyFlagsHasBitModelWrongFalsely : Prop := fnPropertyFlagsHasBitModelRow.holds Try.pinned (OpenSpec.ofChange fnPropertyFlagsHasBitModelWrong)

/-- 'n011_103.FnIsDynamicPrefixCount': WHATEVER THE INPUT: true; the input reads as it did. -/
def fnIsDynamicPrefixCountSpec : ChangeSpec := { name := "fnIsDynamicPrefixCount", fn := fun _ => fun
  | [d] => { results := [.lit (.bool true)], args := [d] }
  | _ => none }
def fnIsDynamicPrefixCountRow : OpenClaim := { program := "ytlgjolenpibopab", sum := "659439bd36e04413638b8078f645d140e3350925dd901fc4726f737d83a9e8d8", func := "github.com/evanw/esbuild/n011_103.FnIsDynamicPrefixCount", spec := "fnIsDynamicPrefixCount", apart := false }
def FnIsDynamicPrefixCountSaid : Prop := fnIsDynamicPrefixCountRow.holds Try.pinned (OpenSpec.ofChange fnIsDynamicPrefixCountSpec)

/-- ITS FALSE NEIGHBOUR: 'it returns false'. Refute it at one input. -/
def fnIsDynamicPrefixCountWrong : ChangeSpec := { name := "fnIsDynamicPrefixCount", fn := fun _ => fun
  | [d] => { results := [.lit (.bool false)], args := [d] }
  | _ => none }
def FnIsDynamicPrefixCountWrongFalsely : Prop := fnIsDynamicPrefixCountRow.holds Try.pinned (OpenSpec.ofChange fnIsDynamicPrefixCountWrong)

/-- 'n011_285.FnAnnotationHasSymmetricMonotone': WHATEVER THE INPUT: true; the input reads as it did. -/
def fnAnnotationHasSymmetricMonotoneSpec : ChangeSpec := { name := "fnAnnotationHasSymmetricMonotone", fn := fun _ => fun
  | [d1, d2, d3] => { results := [.lit (.bool true)], args := [d1, d2, d3] }
  | _ => none }
def fnAnnotationHasSymmetricMonotoneRow : OpenClaim := { program := "ytlgjolenpibopab", sum := "659439bd36e04413638b8078f645d140e3350925dd901fc4726f737d83a9e8d8", func := "github.com/evanw/esbuild/n011_285.FnAnnotationHasSymmetricMonotone", spec := "fnAnnotationHasSymmetricMonotone", apart := false }
def FnAnnotationHasSymmetricMonotoneSaid : Prop := fnAnnotationHasSymmetricMonotoneRow.holds Try.pinned (OpenSpec.ofChange fnAnnotationHasSymmetricMonotoneSpec)

/-- ITS FALSE NEIGHBOUR: 'it returns false'. Refute it at one input. -/
def fnAnnotationHasSymmetricMonotoneWrong : ChangeSpec := { name := "fnAnnotationHasSymmetricMonotone", fn := fun _ => fun
  | [d1, d2, d3] => { results := [.lit (.bool false)], args := [d1, d2, d3] }
  | _ => none }
def FnAnnotationHasSymmetricMonotoneWrongFalsely : Prop := fnAnnotationHasSymmetricMonotoneRow.holds Try.pinned (OpenSpec.ofChange fnAnnotationHasSymmetricMonotoneWrong)

/- THE SECOND FORM. 'bulk': how many values and letters a reading holds, each counted each time it is reached (what is shared counts as often as it is met; a slice's spare places count too). A statement '..UptoSaid' is the law's where the arguments, and the package variables that the reading takes, are together of bulk at most 1048576: NARROWER than '..Said'. Prove '..Said' where nothing that the law and all that it calls make is longer than what came in: it says more and counts as full. Else prove '..UptoSaid'. A law counts once. -/
mutual
def uptoBulk {H : Type} : DataW H → Nat
  | .lit (.string bytes) => bytes.length + 1
  | .lit _ => 1
  | .nil => 1
  | .ptr d => uptoBulk d + 1
  | .slice elems spare => uptoBulkAll elems + uptoBulkAll spare + 1
  | .agg parts => uptoBulkAll parts + 1
  | .iface _ d => uptoBulk d + 1
  | .map entries => uptoBulkEntries entries + 1
  | .held _ => 1
def uptoBulkAll {H : Type} : List (DataW H) → Nat
  | [] => 0
  | d :: r => uptoBulk d + uptoBulkAll r
def uptoBulkEntries {H : Type} : List (Lit × DataW H) → Nat
  | [] => 0
  | x :: r => uptoBulkEntry x + uptoBulkEntries r
def uptoBulkEntry {H : Type} : Lit × DataW H → Nat
  | (.string bytes, d) => bytes.length + uptoBulk d + 1
  | (_, d) => uptoBulk d + 1
 end
def uptoSmall : (H : Type) → List (DataW H) → Bool := fun _ ds => decide (uptoBulkAll ds ≤ 1048576)
def OpenSpec.upto (s : _root_.Go.ChangeSpec) : _root_.Go.OpenSpec := { _root_.Go.OpenSpec.ofChange s with cond := some uptoSmall }

/-- 'n011_205.FnPropertyFlagsHasSymmetricAndDistributes', WHERE WHAT IT READS IS OF BULK AT MOST 1048576: true; the input reads as it did. -/
def fnPropertyFlagsHasSymmetricAndDistributesUptoRow : OpenClaim := { program := "ytlgjolenpibopab", sum := "659439bd36e04413638b8078f645d140e3350925dd901fc4726f737d83a9e8d8", func := "github.com/evanw/esbuild/n011_205.FnPropertyFlagsHasSymmetricAndDistributes", spec := "fnPropertyFlagsHasSymmetricAndDistributes", apart := false, narrowed := true }
def FnPropertyFlagsHasSymmetricAndDistributesUptoSaid : Prop := fnPropertyFlagsHasSymmetricAndDistributesUptoRow.holds Try.pinned (OpenSpec.upto fnPropertyFlagsHasSymmetricAndDistributesSpec)

/-- 'n011_205.FnPropertyFlagsHasBitModel', WHERE WHAT IT READS IS OF BULK AT MOST 1048576: true; the input reads as it did. -/
def fnPropertyFlagsHasBitModelUptoRow : OpenClaim := { program := "ytlgjolenpibopab", sum := "659439bd36e04413638b8078f645d140e3350925dd901fc4726f737d83a9e8d8", func := "github.com/evanw/esbuild/n011_205.FnPropertyFlagsHasBitModel", spec := "fnPropertyFlagsHasBitModel", apart := false, narrowed := true }
def FnPropertyFlagsHasBitModelUptoSaid : Prop := fnPropertyFlagsHasBitModelUptoRow.holds Try.pinned (OpenSpec.upto fnPropertyFlagsHasBitModelSpec)

/-- 'n011_103.FnIsDynamicPrefixCount', WHERE WHAT IT READS IS OF BULK AT MOST 1048576: true; the input reads as it did. -/
def fnIsDynamicPrefixCountUptoRow : OpenClaim := { program := "ytlgjolenpibopab", sum := "659439bd36e04413638b8078f645d140e3350925dd901fc4726f737d83a9e8d8", func := "github.com/evanw/esbuild/n011_103.FnIsDynamicPrefixCount", spec := "fnIsDynamicPrefixCount", apart := false, narrowed := true }
def FnIsDynamicPrefixCountUptoSaid : Prop := fnIsDynamicPrefixCountUptoRow.holds Try.pinned (OpenSpec.upto fnIsDynamicPrefixCountSpec)

/-- 'n011_285.FnAnnotationHasSymmetricMonotone', WHERE WHAT IT READS IS OF BULK AT MOST 1048576: true; the input reads as it did. -/
def fnAnnotationHasSymmetricMonotoneUptoRow : OpenClaim := { program := "ytlgjolenpibopab", sum := "659439bd36e04413638b8078f645d140e3350925dd901fc4726f737d83a9e8d8", func := "github.com/evanw/esbuild/n011_285.FnAnnotationHasSymmetricMonotone", spec := "fnAnnotationHasSymmetricMonotone", apart := false, narrowed := true }
def FnAnnotationHasSymmetricMonotoneUptoSaid : Prop := fnAnnotationHasSymmetricMonotoneUptoRow.holds Try.pinned (OpenSpec.upto fnAnnotationHasSymmetricMonotoneSpec)

end Rows
end Go.Proofs.Ytlgjolenpibopab
