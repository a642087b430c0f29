/-
  DERIVED. GIVEN WITH THE SEED: THE CARDS: each row of Qxb6602396aDoorRows.lean that lists a variable, with what it lists TIED to the program's text (the seventh form; the later family's looks); each row that meets fmt, with fmt's text TOLD by the authors' own Lean function (tested against real Go, not proved from fmt's source: count such statements apart). THE CARD IS WHAT COUNTS. Prove the row's statement (the work); the ties are given (Qxb6602396aDoorTie.lean); close each card by the builder's one call (the guide's Derived/Test/ToyasCard.lean, 'card_holds'). Laid BY PROGRAM, IN A SANDBOX (cutbox-door.mjs). By AI agents, Wed Nov 11 2026. No macro, syntax, notation, axiom, sorry.
-/
import Derived.Test.Qxb6602396aDoorRows
import GoSem.ClaimSeven
namespace Go.Proofs.Qxb6602396aDoor
namespace Rows

/-- THE TIED CARD OF 'zzlaws_internal_table_b1.FnResultStringParsesBack'. -/
def fnResultStringParsesBackCard : Claim7 := { stood := { row := fnResultStringParsesBackRow, standIns := [], harness := (true, "c3cd4bf7b9f028ee637afe757e11e8ee0f26f70abc37038a0e9f2ffd40f23f56"), looks := false }, kinds := [], alts := [], laidByText := true, laidKinds := [.data, .data, .data], laidTests := true, laidLooks := .later }
def FnResultStringParsesBackCardSaid : Prop := Claim7.holds Tryd.pinned (.plain (OpenSpec.ofChange fnResultStringParsesBackSpec)) fnResultStringParsesBackCard

/-- THE TIED CARD OF 'zzlaws_internal_table_b1.FnResultStringSeparatesResults'. -/
def fnResultStringSeparatesResultsCard : Claim7 := { stood := { row := fnResultStringSeparatesResultsRow, standIns := [], harness := (true, "c3cd4bf7b9f028ee637afe757e11e8ee0f26f70abc37038a0e9f2ffd40f23f56"), looks := false }, kinds := [], alts := [], laidByText := true, laidKinds := [.data, .data, .data], laidTests := true, laidLooks := .later }
def FnResultStringSeparatesResultsCardSaid : Prop := Claim7.holds Tryd.pinned (.plain (OpenSpec.ofChange fnResultStringSeparatesResultsSpec)) fnResultStringSeparatesResultsCard
end Rows
end Go.Proofs.Qxb6602396aDoor
