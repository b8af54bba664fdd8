/-
  NARROWER THAN 'FOR EVERY INPUT', by the rows' own cells (each row's printed sentence says how): LawS0409BFields: laid.
  DERIVED. THE GIVEN ROWS OF THIS SEAT. 1 by the template 'for every input the law returns true; each argument reads behind the call as it read before'; 0 by the template 'total and deterministic' (their statements: YbulkhlgDoorTotals.lean).
  GIVEN WITH THE SEED: the statements are not yours to turn. If you find one false, say at which input.
  Laid BY PROGRAM, IN A SANDBOX (cutbox-rows.mjs): the forced cells as the released guide's own fill.sh prints them over the translation 6933a746044f0c1c… (all of the seat's roots in one cut). By AI agents, Wed Nov 11 2026. No macro, syntax, notation, axiom, sorry.
-/
import Derived.Test.YbulkhlgDoorChecked
import GoSem.Claim
import GoSem.ClaimJoined
import GoSem.ClaimMapViews
import Derived.JoinedTies
import Derived.KernelRfl
namespace Go.Proofs.YbulkhlgDoor
/- THE CELL 'sum', in the pinned program and in every row, IS THE sha256 OF THE DUMP (.gsa) THAT YbulkhlgDoorProg.lean LOADS. Nothing in Lean hashes anything: it is a label: what it is worth is what the hold of that sum in a sandbox is worth. -/
noncomputable def Ybad.pinned : Pinned := { name := "ybulkhlgdoor", sum := "6933a746044f0c1c2e2f4e389a92cb16c3099910ead43388291c8b6250f2572b", checked := Ybad.checked }
namespace Rows
def none {H : Type} : Left H := { results := [], args := [] }

/- WHAT THE LISTED PACKAGE-LEVEL VARIABLES READ AS WHEN THE CALL BEGINS. Each datum BY PROGRAM (the guide's laid-datum.mjs) off the statement by which the dump's own 'gosem.cut.vars' lays the variable. In a bare row this is a premise. The card (YbulkhlgDoorCards.lean) ties it to the program's text. -/
def laid_example_com_coalesce_coalesce_auditCodes {H : Type} : DataW H := .slice [.agg [.lit (.string [99, 121, 99, 108, 101]), .lit (.string [70, 65, 84, 65, 76]), .lit (.bool false)], .agg [.lit (.string [98, 97, 100, 45, 115, 105, 103, 110, 97, 116, 117, 114, 101]), .lit (.string [69, 82, 82, 79, 82]), .lit (.bool false)], .agg [.lit (.string [99, 111, 110, 116, 101, 110, 116, 45, 104, 97, 115, 104]), .lit (.string [87, 65, 82, 78]), .lit (.bool false)], .agg [.lit (.string [100, 117, 112, 108, 105, 99, 97, 116, 101, 45, 105, 100]), .lit (.string [69, 82, 82, 79, 82]), .lit (.bool false)], .agg [.lit (.string [97, 117, 116, 104, 45, 101, 118, 101, 110, 116, 115, 45, 114, 101, 106, 101, 99, 116]), .lit (.string [69, 82, 82, 79, 82]), .lit (.bool false)], .agg [.lit (.string [115, 116, 97, 116, 101, 45, 114, 101, 106, 101, 99, 116]), .lit (.string [87, 65, 82, 78]), .lit (.bool false)], .agg [.lit (.string [117, 110, 107, 110, 111, 119, 110, 45, 114, 101, 102, 101, 114, 101, 110, 99, 101]), .lit (.string [87, 65, 82, 78]), .lit (.bool true)], .agg [.lit (.string [100, 101, 112, 116, 104, 45, 109, 105, 115, 109, 97, 116, 99, 104]), .lit (.string [87, 65, 82, 78]), .lit (.bool false)]] []

/-- 'coalesce.LawS0409BFields': WHATEVER THE INPUT: true; the input reads as it did. -/
def lawS0409BFieldsSpec : ChangeSpec := { name := "lawS0409BFields", vars := ["example.com/coalesce/coalesce.auditCodes"], fn := fun _ => fun
  | [d1, d2, d3, d4, d5, g1] => { results := [.lit (.bool true)], args := [d1, d2, d3, d4, d5], vars := [g1] }
  | _ => none }
def lawS0409BFieldsRow : OpenClaim := { program := "ybulkhlgdoor", sum := "6933a746044f0c1c2e2f4e389a92cb16c3099910ead43388291c8b6250f2572b", func := "example.com/coalesce/coalesce.LawS0409BFields", spec := "lawS0409BFields", named := ["example.com/coalesce/coalesce.auditCodes"], apart := false, laid := [("example.com/coalesce/coalesce.auditCodes", laid_example_com_coalesce_coalesce_auditCodes)] }
def LawS0409BFieldsSaid : Prop := lawS0409BFieldsRow.holds Ybad.pinned (OpenSpec.ofChange lawS0409BFieldsSpec)

/-- ITS FALSE NEIGHBOUR: 'it returns false'. Refute it at one input. -/
def lawS0409BFieldsWrong : ChangeSpec := { name := "lawS0409BFields", vars := ["example.com/coalesce/coalesce.auditCodes"], fn := fun _ => fun
  | [d1, d2, d3, d4, d5, g1] => { results := [.lit (.bool false)], args := [d1, d2, d3, d4, d5], vars := [g1] }
  | _ => none }
def LawS0409BFieldsWrongFalsely : Prop := lawS0409BFieldsRow.holds Ybad.pinned (OpenSpec.ofChange lawS0409BFieldsWrong)

end Rows
end Go.Proofs.YbulkhlgDoor
