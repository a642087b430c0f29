/-
  No cell of these rows narrows 'for every input' (looked for: loops, veiled, ifaces, maps, wideKeys, modest, calm, conditions, laid).
  DERIVED. THE GIVEN ROWS OF THIS SEAT. 3 by the template 'for every input the law returns true; each argument reads behind the call as it read before'; 0 by the template 'total and deterministic' (their statements: Qxb6602443aTotals.lean).
  GIVEN WITH THE SEED: the statements are not yours to turn. If you find one false, say at which input.
  Laid BY PROGRAM, IN A SANDBOX (cutbox-rows.mjs): the forced cells as the released guide's own fill.sh prints them over the translation f2dc82bf0a62bf0f… (all of the seat's roots in one cut). By AI agents, Wed Nov 11 2026. No macro, syntax, notation, axiom, sorry.
-/
import Derived.Test.Qxb6602443aChecked
import GoSem.Claim
import GoSem.ClaimJoined
import GoSem.ClaimMapViews
import Derived.JoinedTies
import Derived.KernelRfl
namespace Go.Proofs.Qxb6602443a
/- THE CELL 'sum', in the pinned program and in every row, IS THE sha256 OF THE DUMP (.gsa) THAT Qxb6602443aProg.lean LOADS. Nothing in Lean hashes anything: it is a label: what it is worth is what the hold of that sum in a sandbox is worth. -/
noncomputable def Try.pinned : Pinned := { name := "qxb6602443a", sum := "f2dc82bf0a62bf0f54b9c29eb5a7fc8e7c2621891249d1eafb0f6d9149d320e0", checked := Try.checked }
namespace Rows
def none {H : Type} : Left H := { results := [], args := [] }

/-- 'zzlaws_pipeline_b1.FnJobRowsListsEachJobsRowsInTableOrder': WHATEVER THE INPUT: true; the input reads as it did. -/
def fnJobRowsListsEachJobsRowsInTableOrderSpec : ChangeSpec := { name := "fnJobRowsListsEachJobsRowsInTableOrder", fn := fun _ => fun
  | [d1, d2] => { results := [.lit (.bool true)], args := [d1, d2] }
  | _ => none }
def fnJobRowsListsEachJobsRowsInTableOrderRow : OpenClaim := { program := "qxb6602443a", sum := "f2dc82bf0a62bf0f54b9c29eb5a7fc8e7c2621891249d1eafb0f6d9149d320e0", func := "example.com/loomline/loomline/zzlaws_pipeline_b1.FnJobRowsListsEachJobsRowsInTableOrder", spec := "fnJobRowsListsEachJobsRowsInTableOrder", apart := false }
def FnJobRowsListsEachJobsRowsInTableOrderSaid : Prop := fnJobRowsListsEachJobsRowsInTableOrderRow.holds Try.pinned (OpenSpec.ofChange fnJobRowsListsEachJobsRowsInTableOrderSpec)

/-- ITS FALSE NEIGHBOUR: 'it returns false'. Refute it at one input. -/
def fnJobRowsListsEachJobsRowsInTableOrderWrong : ChangeSpec := { name := "fnJobRowsListsEachJobsRowsInTableOrder", fn := fun _ => fun
  | [d1, d2] => { results := [.lit (.bool false)], args := [d1, d2] }
  | _ => none }
def FnJobRowsListsEachJobsRowsInTableOrderWrongFalsely : Prop := fnJobRowsListsEachJobsRowsInTableOrderRow.holds Try.pinned (OpenSpec.ofChange fnJobRowsListsEachJobsRowsInTableOrderWrong)

/-- 'zzlaws_pipeline_b1.FnJobRowsListsGrowApart': WHATEVER THE INPUT: true; the input reads as it did. -/
def fnJobRowsListsGrowApartSpec : ChangeSpec := { name := "fnJobRowsListsGrowApart", fn := fun _ => fun
  | [d1, d2] => { results := [.lit (.bool true)], args := [d1, d2] }
  | _ => none }
def fnJobRowsListsGrowApartRow : OpenClaim := { program := "qxb6602443a", sum := "f2dc82bf0a62bf0f54b9c29eb5a7fc8e7c2621891249d1eafb0f6d9149d320e0", func := "example.com/loomline/loomline/zzlaws_pipeline_b1.FnJobRowsListsGrowApart", spec := "fnJobRowsListsGrowApart", apart := false }
def FnJobRowsListsGrowApartSaid : Prop := fnJobRowsListsGrowApartRow.holds Try.pinned (OpenSpec.ofChange fnJobRowsListsGrowApartSpec)

/-- ITS FALSE NEIGHBOUR: 'it returns false'. Refute it at one input. -/
def fnJobRowsListsGrowApartWrong : ChangeSpec := { name := "fnJobRowsListsGrowApart", fn := fun _ => fun
  | [d1, d2] => { results := [.lit (.bool false)], args := [d1, d2] }
  | _ => none }
def FnJobRowsListsGrowApartWrongFalsely : Prop := fnJobRowsListsGrowApartRow.holds Try.pinned (OpenSpec.ofChange fnJobRowsListsGrowApartWrong)

/-- 'zzlaws_pipeline_b1.FnJoinIsLexicographicNaturalJoin': WHATEVER THE INPUT: true; the input reads as it did. -/
def fnJoinIsLexicographicNaturalJoinSpec : ChangeSpec := { name := "fnJoinIsLexicographicNaturalJoin", fn := fun _ => fun
  | [d1, d2] => { results := [.lit (.bool true)], args := [d1, d2] }
  | _ => none }
def fnJoinIsLexicographicNaturalJoinRow : OpenClaim := { program := "qxb6602443a", sum := "f2dc82bf0a62bf0f54b9c29eb5a7fc8e7c2621891249d1eafb0f6d9149d320e0", func := "example.com/loomline/loomline/zzlaws_pipeline_b1.FnJoinIsLexicographicNaturalJoin", spec := "fnJoinIsLexicographicNaturalJoin", inPlace := ["internal/abi.NoEscape", "internal/bytealg.MakeNoZero"], apart := false }
def FnJoinIsLexicographicNaturalJoinSaid : Prop := fnJoinIsLexicographicNaturalJoinRow.holds Try.pinned (OpenSpec.ofChange fnJoinIsLexicographicNaturalJoinSpec)

/-- ITS FALSE NEIGHBOUR: 'it returns false'. Refute it at one input. -/
def fnJoinIsLexicographicNaturalJoinWrong : ChangeSpec := { name := "fnJoinIsLexicographicNaturalJoin", fn := fun _ => fun
  | [d1, d2] => { results := [.lit (.bool false)], args := [d1, d2] }
  | _ => none }
def FnJoinIsLexicographicNaturalJoinWrongFalsely : Prop := fnJoinIsLexicographicNaturalJoinRow.holds Try.pinned (OpenSpec.ofChange fnJoinIsLexicographicNaturalJoinWrong)

end Rows
end Go.Proofs.Qxb6602443a
