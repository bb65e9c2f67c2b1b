/-
  No cell of these rows narrows 'for every input' (looked for: loops, veiled, ifaces, maps, wideKeys, modest, calm, conditions, laid).
  DERIVED. THE GIVEN ROWS OF THIS SEAT. 3 by the template 'for every input the law returns true; each argument reads behind the call as it read before'; 0 by the template 'total and deterministic' (their statements: YtaljndnoeiocdabTotals.lean).
  GIVEN WITH THE SEED: the statements are not yours to turn. If you find one false, say at which input.
  Laid BY PROGRAM, IN A SANDBOX (cutbox-rows.mjs): the forced cells as the released guide's own fill.sh prints them over the translation 88ac5a0f0b59b7e1… (all of the seat's roots in one cut). By AI agents, Wed Nov 11 2026. No macro, syntax, notation, axiom, sorry.
-/
import Derived.Test.YtaljndnoeiocdabChecked
import GoSem.Claim
import GoSem.ClaimJoined
import GoSem.ClaimMapViews
import Derived.JoinedTies
import Derived.KernelRfl
namespace Go.Proofs.Ytaljndnoeiocdab
/- THE CELL 'sum', in the pinned program and in every row, IS THE sha256 OF THE DUMP (.gsa) THAT YtaljndnoeiocdabProg.lean LOADS. Nothing in Lean hashes anything: it is a label: what it is worth is what the hold of that sum in a sandbox is worth. -/
noncomputable def Try.pinned : Pinned := { name := "ytaljndnoeiocdab", sum := "88ac5a0f0b59b7e16ddc96051328750acb1835039b01ca8a1f8b34556cb788c1", checked := Try.checked }
namespace Rows
def none {H : Type} : Left H := { results := [], args := [] }

/-- 'n011_168.FnValuesLookTheSameOnNumbersIsSameValue': WHATEVER THE INPUT: true; the input reads as it did. -/
def fnValuesLookTheSameOnNumbersIsSameValueSpec : ChangeSpec := { name := "fnValuesLookTheSameOnNumbersIsSameValue", fn := fun _ => fun
  | [d1, d2, d3, d4] => { results := [.lit (.bool true)], args := [d1, d2, d3, d4] }
  | _ => none }
def fnValuesLookTheSameOnNumbersIsSameValueRow : OpenClaim := { program := "ytaljndnoeiocdab", sum := "88ac5a0f0b59b7e16ddc96051328750acb1835039b01ca8a1f8b34556cb788c1", func := "github.com/evanw/esbuild/n011_168.FnValuesLookTheSameOnNumbersIsSameValue", spec := "fnValuesLookTheSameOnNumbersIsSameValue", inPlace := ["math.Float64bits"], recurses := true, apart := false }
def FnValuesLookTheSameOnNumbersIsSameValueSaid : Prop := fnValuesLookTheSameOnNumbersIsSameValueRow.holds Try.pinned (OpenSpec.ofChange fnValuesLookTheSameOnNumbersIsSameValueSpec)

/-- ITS FALSE NEIGHBOUR: 'it returns false'. Refute it at one input. -/
def fnValuesLookTheSameOnNumbersIsSameValueWrong : ChangeSpec := { name := "fnValuesLookTheSameOnNumbersIsSameValue", fn := fun _ => fun
  | [d1, d2, d3, d4] => { results := [.lit (.bool false)], args := [d1, d2, d3, d4] }
  | _ => none }
def FnValuesLookTheSameOnNumbersIsSameValueWrongFalsely : Prop := fnValuesLookTheSameOnNumbersIsSameValueRow.holds Try.pinned (OpenSpec.ofChange fnValuesLookTheSameOnNumbersIsSameValueWrong)

/-- 'n011_168.FnJoinStringsIsAssociativeWithEmptyIdentity': WHATEVER THE INPUT: true; the input reads as it did. -/
def fnJoinStringsIsAssociativeWithEmptyIdentitySpec : ChangeSpec := { name := "fnJoinStringsIsAssociativeWithEmptyIdentity", fn := fun _ => fun
  | [d1, d2, d3] => { results := [.lit (.bool true)], args := [d1, d2, d3] }
  | _ => none }
def fnJoinStringsIsAssociativeWithEmptyIdentityRow : OpenClaim := { program := "ytaljndnoeiocdab", sum := "88ac5a0f0b59b7e16ddc96051328750acb1835039b01ca8a1f8b34556cb788c1", func := "github.com/evanw/esbuild/n011_168.FnJoinStringsIsAssociativeWithEmptyIdentity", spec := "fnJoinStringsIsAssociativeWithEmptyIdentity", apart := false }
def FnJoinStringsIsAssociativeWithEmptyIdentitySaid : Prop := fnJoinStringsIsAssociativeWithEmptyIdentityRow.holds Try.pinned (OpenSpec.ofChange fnJoinStringsIsAssociativeWithEmptyIdentitySpec)

/-- ITS FALSE NEIGHBOUR: 'it returns false'. Refute it at one input. -/
def fnJoinStringsIsAssociativeWithEmptyIdentityWrong : ChangeSpec := { name := "fnJoinStringsIsAssociativeWithEmptyIdentity", fn := fun _ => fun
  | [d1, d2, d3] => { results := [.lit (.bool false)], args := [d1, d2, d3] }
  | _ => none }
def FnJoinStringsIsAssociativeWithEmptyIdentityWrongFalsely : Prop := fnJoinStringsIsAssociativeWithEmptyIdentityRow.holds Try.pinned (OpenSpec.ofChange fnJoinStringsIsAssociativeWithEmptyIdentityWrong)

/-- 'n011_168.FnJoinStringsIsAFreshConcatenation': WHATEVER THE INPUT: true; the input reads as it did. -/
def fnJoinStringsIsAFreshConcatenationSpec : ChangeSpec := { name := "fnJoinStringsIsAFreshConcatenation", fn := fun _ => fun
  | [d1, d2] => { results := [.lit (.bool true)], args := [d1, d2] }
  | _ => none }
def fnJoinStringsIsAFreshConcatenationRow : OpenClaim := { program := "ytaljndnoeiocdab", sum := "88ac5a0f0b59b7e16ddc96051328750acb1835039b01ca8a1f8b34556cb788c1", func := "github.com/evanw/esbuild/n011_168.FnJoinStringsIsAFreshConcatenation", spec := "fnJoinStringsIsAFreshConcatenation", apart := false }
def FnJoinStringsIsAFreshConcatenationSaid : Prop := fnJoinStringsIsAFreshConcatenationRow.holds Try.pinned (OpenSpec.ofChange fnJoinStringsIsAFreshConcatenationSpec)

/-- ITS FALSE NEIGHBOUR: 'it returns false'. Refute it at one input. -/
def fnJoinStringsIsAFreshConcatenationWrong : ChangeSpec := { name := "fnJoinStringsIsAFreshConcatenation", fn := fun _ => fun
  | [d1, d2] => { results := [.lit (.bool false)], args := [d1, d2] }
  | _ => none }
def FnJoinStringsIsAFreshConcatenationWrongFalsely : Prop := fnJoinStringsIsAFreshConcatenationRow.holds Try.pinned (OpenSpec.ofChange fnJoinStringsIsAFreshConcatenationWrong)

/- THE SECOND FORM. 'bulk': how many values and letters a reading holds, each counted each time it is reached (what is shared counts as often as it is met; a slice's spare places count too). A statement '..UptoSaid' is the law's where the arguments, and the package variables that the reading takes, are together of bulk at most 1048576: NARROWER than '..Said'. Prove '..Said' where nothing that the law and all that it calls make is longer than what came in: it says more and counts as full. Else prove '..UptoSaid'. A law counts once. -/
mutual
def uptoBulk {H : Type} : DataW H → Nat
  | .lit (.string bytes) => bytes.length + 1
  | .lit _ => 1
  | .nil => 1
  | .ptr d => uptoBulk d + 1
  | .slice elems spare => uptoBulkAll elems + uptoBulkAll spare + 1
  | .agg parts => uptoBulkAll parts + 1
  | .iface _ d => uptoBulk d + 1
  | .map entries => uptoBulkEntries entries + 1
  | .held _ => 1
def uptoBulkAll {H : Type} : List (DataW H) → Nat
  | [] => 0
  | d :: r => uptoBulk d + uptoBulkAll r
def uptoBulkEntries {H : Type} : List (Lit × DataW H) → Nat
  | [] => 0
  | x :: r => uptoBulkEntry x + uptoBulkEntries r
def uptoBulkEntry {H : Type} : Lit × DataW H → Nat
  | (.string bytes, d) => bytes.length + uptoBulk d + 1
  | (_, d) => uptoBulk d + 1
 end
def uptoSmall : (H : Type) → List (DataW H) → Bool := fun _ ds => decide (uptoBulkAll ds ≤ 1048576)
def OpenSpec.upto (s : _root_.Go.ChangeSpec) : _root_.Go.OpenSpec := { _root_.Go.OpenSpec.ofChange s with cond := some uptoSmall }

/-- 'n011_168.FnValuesLookTheSameOnNumbersIsSameValue', WHERE WHAT IT READS IS OF BULK AT MOST 1048576: true; the input reads as it did. -/
def fnValuesLookTheSameOnNumbersIsSameValueUptoRow : OpenClaim := { program := "ytaljndnoeiocdab", sum := "88ac5a0f0b59b7e16ddc96051328750acb1835039b01ca8a1f8b34556cb788c1", func := "github.com/evanw/esbuild/n011_168.FnValuesLookTheSameOnNumbersIsSameValue", spec := "fnValuesLookTheSameOnNumbersIsSameValue", inPlace := ["math.Float64bits"], recurses := true, apart := false, narrowed := true }
def FnValuesLookTheSameOnNumbersIsSameValueUptoSaid : Prop := fnValuesLookTheSameOnNumbersIsSameValueUptoRow.holds Try.pinned (OpenSpec.upto fnValuesLookTheSameOnNumbersIsSameValueSpec)

/-- 'n011_168.FnJoinStringsIsAssociativeWithEmptyIdentity', WHERE WHAT IT READS IS OF BULK AT MOST 1048576: true; the input reads as it did. -/
def fnJoinStringsIsAssociativeWithEmptyIdentityUptoRow : OpenClaim := { program := "ytaljndnoeiocdab", sum := "88ac5a0f0b59b7e16ddc96051328750acb1835039b01ca8a1f8b34556cb788c1", func := "github.com/evanw/esbuild/n011_168.FnJoinStringsIsAssociativeWithEmptyIdentity", spec := "fnJoinStringsIsAssociativeWithEmptyIdentity", apart := false, narrowed := true }
def FnJoinStringsIsAssociativeWithEmptyIdentityUptoSaid : Prop := fnJoinStringsIsAssociativeWithEmptyIdentityUptoRow.holds Try.pinned (OpenSpec.upto fnJoinStringsIsAssociativeWithEmptyIdentitySpec)

/-- 'n011_168.FnJoinStringsIsAFreshConcatenation', WHERE WHAT IT READS IS OF BULK AT MOST 1048576: true; the input reads as it did. -/
def fnJoinStringsIsAFreshConcatenationUptoRow : OpenClaim := { program := "ytaljndnoeiocdab", sum := "88ac5a0f0b59b7e16ddc96051328750acb1835039b01ca8a1f8b34556cb788c1", func := "github.com/evanw/esbuild/n011_168.FnJoinStringsIsAFreshConcatenation", spec := "fnJoinStringsIsAFreshConcatenation", apart := false, narrowed := true }
def FnJoinStringsIsAFreshConcatenationUptoSaid : Prop := fnJoinStringsIsAFreshConcatenationUptoRow.holds Try.pinned (OpenSpec.upto fnJoinStringsIsAFreshConcatenationSpec)

end Rows
end Go.Proofs.Ytaljndnoeiocdab
