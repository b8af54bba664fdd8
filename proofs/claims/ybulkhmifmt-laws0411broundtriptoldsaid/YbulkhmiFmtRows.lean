/-
  NARROWER THAN 'FOR EVERY INPUT', by the rows' own cells (each row's printed sentence says how): LawS0411BRoundTrip: ifaces, laid.
  DERIVED. THE GIVEN ROWS OF THIS SEAT. 3 by the template 'for every input the law returns true; each argument reads behind the call as it read before'; 0 by the template 'total and deterministic' (their statements: YbulkhmiFmtTotals.lean).
  GIVEN WITH THE SEED: the statements are not yours to turn. If you find one false, say at which input.
  Laid BY PROGRAM, IN A SANDBOX (cutbox-rows.mjs): the forced cells as the released guide's own fill.sh prints them over the translation 8f0dfc4a015536f4… (all of the seat's roots in one cut). By AI agents, Wed Nov 11 2026. No macro, syntax, notation, axiom, sorry.
-/
import Derived.Test.YbulkhmiFmtChecked
import GoSem.Claim
import GoSem.ClaimJoined
import GoSem.ClaimMapViews
import Derived.JoinedTies
import Derived.KernelRfl
namespace Go.Proofs.YbulkhmiFmt
/- THE CELL 'sum', in the pinned program and in every row, IS THE sha256 OF THE DUMP (.gsa) THAT YbulkhmiFmtProg.lean LOADS. Nothing in Lean hashes anything: it is a label: what it is worth is what the hold of that sum in a sandbox is worth. -/
noncomputable def Ybaf.pinned : Pinned := { name := "ybulkhmifmt", sum := "8f0dfc4a015536f4ed0cd82e09e7c53cbc7fd5ddce0eaaa5f1c8928ccf89e61c", checked := Ybaf.checked }
namespace Rows
def none {H : Type} : Left H := { results := [], args := [] }

/- WHAT THE LISTED PACKAGE-LEVEL VARIABLES READ AS WHEN THE CALL BEGINS. Each datum BY PROGRAM (the guide's laid-datum.mjs) off the statement by which the dump's own 'gosem.cut.vars' lays the variable. In a bare row this is a premise. The card (YbulkhmiFmtCards.lean) ties it to the program's text. -/
def laid_example_com_peerpulse_peerpulse_ikev1_ErrMalformed {H : Type} : DataW H := .iface "*errors.errorString" (.ptr (.agg [.lit (.string [109, 97, 108, 102, 111, 114, 109, 101, 100, 32, 73, 83, 65, 75, 77, 80, 32, 109, 101, 115, 115, 97, 103, 101])]))

/-- 'ikev1.LawS0411BExact': WHATEVER THE INPUT: true; the input reads as it did. -/
def lawS0411BExactSpec : ChangeSpec := { name := "lawS0411BExact", fn := fun _ => fun
  | [d1, d2, d3, d4, d5, d6] => { results := [.lit (.bool true)], args := [d1, d2, d3, d4, d5, d6] }
  | _ => none }
def lawS0411BExactRow : OpenClaim := { program := "ybulkhmifmt", sum := "8f0dfc4a015536f4ed0cd82e09e7c53cbc7fd5ddce0eaaa5f1c8928ccf89e61c", func := "example.com/peerpulse/peerpulse/ikev1.LawS0411BExact", spec := "lawS0411BExact", stops := ["fmt.errorf"], inPlace := ["fmt.errorf"], named := ["encoding/binary.BigEndian"], apart := false }
/-- NO THEOREM (fmt's text is open here; it may be false): for the released tool's asking of the row's closed facts alone. THE STATEMENT IS 'LawS0411BExactToldSaid' (YbulkhmiFmtCards.lean). -/
def LawS0411BExactFormAsk : Prop := lawS0411BExactRow.holds Ybaf.pinned (OpenSpec.ofChange lawS0411BExactSpec)

/-- ITS FALSE NEIGHBOUR: 'it returns false'. Refute it at one input. -/
def lawS0411BExactWrong : ChangeSpec := { name := "lawS0411BExact", fn := fun _ => fun
  | [d1, d2, d3, d4, d5, d6] => { results := [.lit (.bool false)], args := [d1, d2, d3, d4, d5, d6] }
  | _ => none }
def LawS0411BExactWrongFormAsk : Prop := lawS0411BExactRow.holds Ybaf.pinned (OpenSpec.ofChange lawS0411BExactWrong)

/-- 'ikev1.LawS0411BLong': WHATEVER THE INPUT: true; the input reads as it did. -/
def lawS0411BLongSpec : ChangeSpec := { name := "lawS0411BLong", fn := fun _ => fun
  | [d1, d2, d3, d4, d5, d6] => { results := [.lit (.bool true)], args := [d1, d2, d3, d4, d5, d6] }
  | _ => none }
def lawS0411BLongRow : OpenClaim := { program := "ybulkhmifmt", sum := "8f0dfc4a015536f4ed0cd82e09e7c53cbc7fd5ddce0eaaa5f1c8928ccf89e61c", func := "example.com/peerpulse/peerpulse/ikev1.LawS0411BLong", spec := "lawS0411BLong", stops := ["fmt.errorf"], inPlace := ["fmt.errorf"], named := ["encoding/binary.BigEndian"], apart := false }
/-- NO THEOREM (fmt's text is open here; it may be false): for the released tool's asking of the row's closed facts alone. THE STATEMENT IS 'LawS0411BLongToldSaid' (YbulkhmiFmtCards.lean). -/
def LawS0411BLongFormAsk : Prop := lawS0411BLongRow.holds Ybaf.pinned (OpenSpec.ofChange lawS0411BLongSpec)

/-- ITS FALSE NEIGHBOUR: 'it returns false'. Refute it at one input. -/
def lawS0411BLongWrong : ChangeSpec := { name := "lawS0411BLong", fn := fun _ => fun
  | [d1, d2, d3, d4, d5, d6] => { results := [.lit (.bool false)], args := [d1, d2, d3, d4, d5, d6] }
  | _ => none }
def LawS0411BLongWrongFormAsk : Prop := lawS0411BLongRow.holds Ybaf.pinned (OpenSpec.ofChange lawS0411BLongWrong)

/-- 'ikev1.LawS0411BRoundTrip': WHATEVER THE INPUT: true; the input reads as it did. -/
def lawS0411BRoundTripSpec : ChangeSpec := { name := "lawS0411BRoundTrip", vars := ["example.com/peerpulse/peerpulse/ikev1.ErrMalformed"], fn := fun _ => fun
  | [d1, d2, d3, d4, d5, g1] => { results := [.lit (.bool true)], args := [d1, d2, d3, d4, d5], vars := [g1] }
  | _ => none }
def lawS0411BRoundTripRow : OpenClaim := { program := "ybulkhmifmt", sum := "8f0dfc4a015536f4ed0cd82e09e7c53cbc7fd5ddce0eaaa5f1c8928ccf89e61c", func := "example.com/peerpulse/peerpulse/ikev1.LawS0411BRoundTrip", spec := "lawS0411BRoundTrip", stops := ["fmt.errorf"], inPlace := ["fmt.errorf"], named := ["encoding/binary.BigEndian", "example.com/peerpulse/peerpulse/ikev1.ErrMalformed"], ifaces := true, apart := false, laid := [("example.com/peerpulse/peerpulse/ikev1.ErrMalformed", laid_example_com_peerpulse_peerpulse_ikev1_ErrMalformed)] }
/-- NO THEOREM (fmt's text is open here; it may be false): for the released tool's asking of the row's closed facts alone. THE STATEMENT IS 'LawS0411BRoundTripToldSaid' (YbulkhmiFmtCards.lean). -/
def LawS0411BRoundTripFormAsk : Prop := lawS0411BRoundTripRow.holds Ybaf.pinned (OpenSpec.ofChange lawS0411BRoundTripSpec)

/-- ITS FALSE NEIGHBOUR: 'it returns false'. Refute it at one input. -/
def lawS0411BRoundTripWrong : ChangeSpec := { name := "lawS0411BRoundTrip", vars := ["example.com/peerpulse/peerpulse/ikev1.ErrMalformed"], fn := fun _ => fun
  | [d1, d2, d3, d4, d5, g1] => { results := [.lit (.bool false)], args := [d1, d2, d3, d4, d5], vars := [g1] }
  | _ => none }
def LawS0411BRoundTripWrongFormAsk : Prop := lawS0411BRoundTripRow.holds Ybaf.pinned (OpenSpec.ofChange lawS0411BRoundTripWrong)

end Rows
end Go.Proofs.YbulkhmiFmt
