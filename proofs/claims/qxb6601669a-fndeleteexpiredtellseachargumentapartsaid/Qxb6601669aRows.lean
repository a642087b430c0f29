/-
  No cell of these rows narrows 'for every input' (looked for: loops, veiled, ifaces, maps, wideKeys, modest, calm, conditions, laid).
  DERIVED. THE GIVEN ROWS OF THIS SEAT. 1 by the template 'for every input the law returns true; each argument reads behind the call as it read before'; 0 by the template 'total and deterministic' (their statements: Qxb6601669aTotals.lean).
  GIVEN WITH THE SEED: the statements are not yours to turn. If you find one false, say at which input.
  Laid BY PROGRAM, IN A SANDBOX (cutbox-rows.mjs): the forced cells as the released guide's own fill.sh prints them over the translation b383504322271648… (all of the seat's roots in one cut). By AI agents, Wed Nov 11 2026. No macro, syntax, notation, axiom, sorry.
-/
import Derived.Test.Qxb6601669aChecked
import GoSem.Claim
import GoSem.ClaimJoined
import GoSem.ClaimMapViews
import Derived.JoinedTies
import Derived.KernelRfl
namespace Go.Proofs.Qxb6601669a
/- THE CELL 'sum', in the pinned program and in every row, IS THE sha256 OF THE DUMP (.gsa) THAT Qxb6601669aProg.lean LOADS. Nothing in Lean hashes anything: it is a label: what it is worth is what the hold of that sum in a sandbox is worth. -/
noncomputable def Try.pinned : Pinned := { name := "qxb6601669a", sum := "b383504322271648fe185734d4b2520a079ed3012eaea24203194171e907cb98", checked := Try.checked }
namespace Rows
def none {H : Type} : Left H := { results := [], args := [] }

/-- 'zzlaws_sweeper_b1.FnDeleteExpiredTellsEachArgumentApart': WHATEVER THE INPUT: true; the input reads as it did. -/
def fnDeleteExpiredTellsEachArgumentApartSpec : ChangeSpec := { name := "fnDeleteExpiredTellsEachArgumentApart", fn := fun _ => fun
  | [d1, d2, d3, d4, d5, d6] => { results := [.lit (.bool true)], args := [d1, d2, d3, d4, d5, d6] }
  | _ => none }
def fnDeleteExpiredTellsEachArgumentApartRow : OpenClaim := { program := "qxb6601669a", sum := "b383504322271648fe185734d4b2520a079ed3012eaea24203194171e907cb98", func := "example.com/kept-post/kept-post/zzlaws_sweeper_b1.FnDeleteExpiredTellsEachArgumentApart", spec := "fnDeleteExpiredTellsEachArgumentApart", apart := false }
def FnDeleteExpiredTellsEachArgumentApartSaid : Prop := fnDeleteExpiredTellsEachArgumentApartRow.holds Try.pinned (OpenSpec.ofChange fnDeleteExpiredTellsEachArgumentApartSpec)

/-- ITS FALSE NEIGHBOUR: 'it returns false'. Refute it at one input. -/
def fnDeleteExpiredTellsEachArgumentApartWrong : ChangeSpec := { name := "fnDeleteExpiredTellsEachArgumentApart", fn := fun _ => fun
  | [d1, d2, d3, d4, d5, d6] => { results := [.lit (.bool false)], args := [d1, d2, d3, d4, d5, d6] }
  | _ => none }
def FnDeleteExpiredTellsEachArgumentApartWrongFalsely : Prop := fnDeleteExpiredTellsEachArgumentApartRow.holds Try.pinned (OpenSpec.ofChange fnDeleteExpiredTellsEachArgumentApartWrong)

end Rows
end Go.Proofs.Qxb6601669a
