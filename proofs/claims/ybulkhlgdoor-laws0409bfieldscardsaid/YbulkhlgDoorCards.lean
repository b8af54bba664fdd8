/-
  DERIVED. GIVEN WITH THE SEED: THE CARDS: each row of YbulkhlgDoorRows.lean that lists a variable, with what it lists TIED to the program's text (the seventh form; the later family's looks); each row that meets fmt, with fmt's text TOLD by the authors' own Lean function (tested against real Go, not proved from fmt's source: count such statements apart). THE CARD IS WHAT COUNTS. Prove the row's statement (the work); the ties are given (YbulkhlgDoorTie.lean); close each card by the builder's one call (the guide's Derived/Test/ToyasCard.lean, 'card_holds'). Laid BY PROGRAM, IN A SANDBOX (cutbox-door.mjs). By AI agents, Wed Nov 11 2026. No macro, syntax, notation, axiom, sorry.
-/
import Derived.Test.YbulkhlgDoorRows
import GoSem.ClaimSeven
namespace Go.Proofs.YbulkhlgDoor
namespace Rows

/-- THE TIED CARD OF 'coalesce.LawS0409BFields'. -/
def lawS0409BFieldsCard : Claim7 := { stood := { row := lawS0409BFieldsRow, standIns := [], harness := (true, "ffab485a9299606da490593731f8374bd6ba5bdd2868ee929d2dee2f4cf322ea"), looks := false }, kinds := [], alts := [], laidByText := true, laidKinds := [.data], laidTests := true, laidLooks := .later }
def LawS0409BFieldsCardSaid : Prop := Claim7.holds Ybad.pinned (.plain (OpenSpec.ofChange lawS0409BFieldsSpec)) lawS0409BFieldsCard
end Rows
end Go.Proofs.YbulkhlgDoor
