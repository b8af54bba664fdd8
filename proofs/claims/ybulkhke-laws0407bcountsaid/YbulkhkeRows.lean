/-
  No cell of these rows narrows 'for every input' (looked for: loops, veiled, ifaces, maps, wideKeys, modest, calm, conditions, laid).
  DERIVED. THE GIVEN ROWS OF THIS SEAT. 4 by the template 'for every input the law returns true; each argument reads behind the call as it read before'; 0 by the template 'total and deterministic' (their statements: YbulkhkeTotals.lean).
  GIVEN WITH THE SEED: the statements are not yours to turn. If you find one false, say at which input.
  Laid BY PROGRAM, IN A SANDBOX (cutbox-rows.mjs): the forced cells as the released guide's own fill.sh prints them over the translation 29cbc3e3f00f7fc1… (all of the seat's roots in one cut). By AI agents, Wed Nov 11 2026. No macro, syntax, notation, axiom, sorry.
-/
import Derived.Test.YbulkhkeChecked
import GoSem.Claim
import GoSem.ClaimJoined
import GoSem.ClaimMapViews
import Derived.JoinedTies
import Derived.KernelRfl
namespace Go.Proofs.Ybulkhke
/- THE CELL 'sum', in the pinned program and in every row, IS THE sha256 OF THE DUMP (.gsa) THAT YbulkhkeProg.lean LOADS. Nothing in Lean hashes anything: it is a label: what it is worth is what the hold of that sum in a sandbox is worth. -/
noncomputable def Yba.pinned : Pinned := { name := "ybulkhke", sum := "29cbc3e3f00f7fc101ef46f8978fa7e52ed5ceec471b278e0a62d950b347c426", checked := Yba.checked }
namespace Rows
def none {H : Type} : Left H := { results := [], args := [] }

/-- 'mergewire.LawS0407BStep': WHATEVER THE INPUT: true; the input reads as it did. -/
def lawS0407BStepSpec : ChangeSpec := { name := "lawS0407BStep", fn := fun _ => fun
  | [d1, d2, d3] => { results := [.lit (.bool true)], args := [d1, d2, d3] }
  | _ => none }
def lawS0407BStepRow : OpenClaim := { program := "ybulkhke", sum := "29cbc3e3f00f7fc101ef46f8978fa7e52ed5ceec471b278e0a62d950b347c426", func := "example.com/mergewire/mergewire.LawS0407BStep", spec := "lawS0407BStep", apart := false }
def LawS0407BStepSaid : Prop := lawS0407BStepRow.holds Yba.pinned (OpenSpec.ofChange lawS0407BStepSpec)

/-- ITS FALSE NEIGHBOUR: 'it returns false'. Refute it at one input. -/
def lawS0407BStepWrong : ChangeSpec := { name := "lawS0407BStep", fn := fun _ => fun
  | [d1, d2, d3] => { results := [.lit (.bool false)], args := [d1, d2, d3] }
  | _ => none }
def LawS0407BStepWrongFalsely : Prop := lawS0407BStepRow.holds Yba.pinned (OpenSpec.ofChange lawS0407BStepWrong)

/-- 'mergewire.LawS0407BCount': WHATEVER THE INPUT: true; the input reads as it did. -/
def lawS0407BCountSpec : ChangeSpec := { name := "lawS0407BCount", fn := fun _ => fun
  | [d] => { results := [.lit (.bool true)], args := [d] }
  | _ => none }
def lawS0407BCountRow : OpenClaim := { program := "ybulkhke", sum := "29cbc3e3f00f7fc101ef46f8978fa7e52ed5ceec471b278e0a62d950b347c426", func := "example.com/mergewire/mergewire.LawS0407BCount", spec := "lawS0407BCount", apart := false }
def LawS0407BCountSaid : Prop := lawS0407BCountRow.holds Yba.pinned (OpenSpec.ofChange lawS0407BCountSpec)

/-- ITS FALSE NEIGHBOUR: 'it returns false'. Refute it at one input. -/
def lawS0407BCountWrong : ChangeSpec := { name := "lawS0407BCount", fn := fun _ => fun
  | [d] => { results := [.lit (.bool false)], args := [d] }
  | _ => none }
def LawS0407BCountWrongFalsely : Prop := lawS0407BCountRow.holds Yba.pinned (OpenSpec.ofChange lawS0407BCountWrong)

/-- 'mergewire.LawS0407CModel': WHATEVER THE INPUT: true; the input reads as it did. -/
def lawS0407CModelSpec : ChangeSpec := { name := "lawS0407CModel", fn := fun _ => fun
  | [d] => { results := [.lit (.bool true)], args := [d] }
  | _ => none }
def lawS0407CModelRow : OpenClaim := { program := "ybulkhke", sum := "29cbc3e3f00f7fc101ef46f8978fa7e52ed5ceec471b278e0a62d950b347c426", func := "example.com/mergewire/mergewire.LawS0407CModel", spec := "lawS0407CModel", apart := false }
def LawS0407CModelSaid : Prop := lawS0407CModelRow.holds Yba.pinned (OpenSpec.ofChange lawS0407CModelSpec)

/-- ITS FALSE NEIGHBOUR: 'it returns false'. Refute it at one input. -/
def lawS0407CModelWrong : ChangeSpec := { name := "lawS0407CModel", fn := fun _ => fun
  | [d] => { results := [.lit (.bool false)], args := [d] }
  | _ => none }
def LawS0407CModelWrongFalsely : Prop := lawS0407CModelRow.holds Yba.pinned (OpenSpec.ofChange lawS0407CModelWrong)

/-- 'mergewire.LawS0407CBuilt': WHATEVER THE INPUT: true; the input reads as it did. -/
def lawS0407CBuiltSpec : ChangeSpec := { name := "lawS0407CBuilt", fn := fun _ => fun
  | [d1, d2, d3] => { results := [.lit (.bool true)], args := [d1, d2, d3] }
  | _ => none }
def lawS0407CBuiltRow : OpenClaim := { program := "ybulkhke", sum := "29cbc3e3f00f7fc101ef46f8978fa7e52ed5ceec471b278e0a62d950b347c426", func := "example.com/mergewire/mergewire.LawS0407CBuilt", spec := "lawS0407CBuilt", apart := false }
def LawS0407CBuiltSaid : Prop := lawS0407CBuiltRow.holds Yba.pinned (OpenSpec.ofChange lawS0407CBuiltSpec)

/-- ITS FALSE NEIGHBOUR: 'it returns false'. Refute it at one input. -/
def lawS0407CBuiltWrong : ChangeSpec := { name := "lawS0407CBuilt", fn := fun _ => fun
  | [d1, d2, d3] => { results := [.lit (.bool false)], args := [d1, d2, d3] }
  | _ => none }
def LawS0407CBuiltWrongFalsely : Prop := lawS0407CBuiltRow.holds Yba.pinned (OpenSpec.ofChange lawS0407CBuiltWrong)

end Rows
end Go.Proofs.Ybulkhke
