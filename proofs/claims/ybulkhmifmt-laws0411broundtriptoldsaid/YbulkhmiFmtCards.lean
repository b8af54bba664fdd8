/-
  DERIVED. GIVEN WITH THE SEED: THE CARDS: each row of YbulkhmiFmtRows.lean that lists a variable, with what it lists TIED to the program's text (the seventh form; the later family's looks); each row that meets fmt, with fmt's text TOLD by the authors' own Lean function (tested against real Go, not proved from fmt's source: count such statements apart). THE CARD IS WHAT COUNTS. Prove the row's statement (the work); the ties are given (YbulkhmiFmtTie.lean); close each card by the builder's one call (the guide's Derived/Test/ToyasCard.lean, 'card_holds'). Laid BY PROGRAM, IN A SANDBOX (cutbox-door.mjs). By AI agents, Wed Nov 11 2026. No macro, syntax, notation, axiom, sorry.
-/
import Derived.Test.YbulkhmiFmtRows
import GoSem.ClaimSeven
namespace Go.Proofs.YbulkhmiFmt
namespace Rows

/-- THE TOLD CARD OF 'ikev1.LawS0411BExact'. -/
def lawS0411BExactCard : Claim7 := { stood := { row := lawS0411BExactRow, standIns := [], harness := (true, "8c28c7ea60eb416f32cc174ed4c265415e2f6fcec2b68f30446b91ce44c1abce"), looks := false }, told := true, goes := false }
def LawS0411BExactToldSaid : Prop := Claim7.holds Ybaf.pinned (.plain (OpenSpec.ofChange lawS0411BExactSpec)) lawS0411BExactCard
/-- ITS FALSE NEIGHBOUR. Refute it at one input. -/
def LawS0411BExactToldWrongFalsely : Prop := Claim7.holds Ybaf.pinned (.plain (OpenSpec.ofChange lawS0411BExactWrong)) lawS0411BExactCard

/-- THE TOLD CARD OF 'ikev1.LawS0411BLong'. -/
def lawS0411BLongCard : Claim7 := { stood := { row := lawS0411BLongRow, standIns := [], harness := (true, "8c28c7ea60eb416f32cc174ed4c265415e2f6fcec2b68f30446b91ce44c1abce"), looks := false }, told := true, goes := false }
def LawS0411BLongToldSaid : Prop := Claim7.holds Ybaf.pinned (.plain (OpenSpec.ofChange lawS0411BLongSpec)) lawS0411BLongCard
/-- ITS FALSE NEIGHBOUR. Refute it at one input. -/
def LawS0411BLongToldWrongFalsely : Prop := Claim7.holds Ybaf.pinned (.plain (OpenSpec.ofChange lawS0411BLongWrong)) lawS0411BLongCard

/-- THE TOLD AND TIED CARD OF 'ikev1.LawS0411BRoundTrip'. -/
def lawS0411BRoundTripCard : Claim7 := { stood := { row := lawS0411BRoundTripRow, standIns := [], harness := (true, "8c28c7ea60eb416f32cc174ed4c265415e2f6fcec2b68f30446b91ce44c1abce"), looks := false }, told := true, laidByText := true, laidKinds := [.sentinel], laidTests := true, laidLooks := .later, goes := false }
def LawS0411BRoundTripToldSaid : Prop := Claim7.holds Ybaf.pinned (.plain (OpenSpec.ofChange lawS0411BRoundTripSpec)) lawS0411BRoundTripCard
/-- ITS FALSE NEIGHBOUR. Refute it at one input. -/
def LawS0411BRoundTripToldWrongFalsely : Prop := Claim7.holds Ybaf.pinned (.plain (OpenSpec.ofChange lawS0411BRoundTripWrong)) lawS0411BRoundTripCard
end Rows
end Go.Proofs.YbulkhmiFmt
