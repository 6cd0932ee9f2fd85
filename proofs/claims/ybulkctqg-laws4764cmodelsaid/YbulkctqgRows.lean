/-
  No cell of these rows narrows 'for every input' (looked for: loops, veiled, ifaces, maps, wideKeys, modest, calm, conditions, laid).
  DERIVED. THE GIVEN ROWS OF THIS SEAT. 6 by the template 'for every input the law returns true; each argument reads behind the call as it read before'; 0 by the template 'total and deterministic' (their statements: YbulkctqgTotals.lean).
  GIVEN WITH THE SEED: the statements are not yours to turn. If you find one false, say at which input.
  Laid BY PROGRAM, IN A SANDBOX (cutbox-rows.mjs): the forced cells as the released guide's own fill.sh prints them over the translation 24be9aac574349b7… (all of the seat's roots in one cut). By AI agents, Wed Nov 11 2026. No macro, syntax, notation, axiom, sorry.
-/
import Derived.Test.YbulkctqgChecked
import GoSem.Claim
import GoSem.ClaimJoined
import GoSem.ClaimMapViews
import Derived.JoinedTies
import Derived.KernelRfl
namespace Go.Proofs.Ybulkctqg
/- THE CELL 'sum', in the pinned program and in every row, IS THE sha256 OF THE DUMP (.gsa) THAT YbulkctqgProg.lean LOADS. Nothing in Lean hashes anything: it is a label: what it is worth is what the hold of that sum in a sandbox is worth. -/
noncomputable def Yba.pinned : Pinned := { name := "ybulkctqg", sum := "24be9aac574349b765ccd60efdca07c104f2127263adc8e0f9369839982db492", checked := Yba.checked }
namespace Rows
def none {H : Type} : Left H := { results := [], args := [] }

/-- 'durance.LawS4764AExact': WHATEVER THE INPUT: true; the input reads as it did. -/
def lawS4764AExactSpec : ChangeSpec := { name := "lawS4764AExact", fn := fun _ => fun
  | [d] => { results := [.lit (.bool true)], args := [d] }
  | _ => none }
def lawS4764AExactRow : OpenClaim := { program := "ybulkctqg", sum := "24be9aac574349b765ccd60efdca07c104f2127263adc8e0f9369839982db492", func := "example.com/durance/durance.LawS4764AExact", spec := "lawS4764AExact", apart := false }
def LawS4764AExactSaid : Prop := lawS4764AExactRow.holds Yba.pinned (OpenSpec.ofChange lawS4764AExactSpec)

/-- ITS FALSE NEIGHBOUR: 'it returns false'. Refute it at one input. -/
def lawS4764AExactWrong : ChangeSpec := { name := "lawS4764AExact", fn := fun _ => fun
  | [d] => { results := [.lit (.bool false)], args := [d] }
  | _ => none }
def LawS4764AExactWrongFalsely : Prop := lawS4764AExactRow.holds Yba.pinned (OpenSpec.ofChange lawS4764AExactWrong)

/-- 'durance.LawS4764AStep': WHATEVER THE INPUT: true; the input reads as it did. -/
def lawS4764AStepSpec : ChangeSpec := { name := "lawS4764AStep", fn := fun _ => fun
  | [d] => { results := [.lit (.bool true)], args := [d] }
  | _ => none }
def lawS4764AStepRow : OpenClaim := { program := "ybulkctqg", sum := "24be9aac574349b765ccd60efdca07c104f2127263adc8e0f9369839982db492", func := "example.com/durance/durance.LawS4764AStep", spec := "lawS4764AStep", apart := false }
def LawS4764AStepSaid : Prop := lawS4764AStepRow.holds Yba.pinned (OpenSpec.ofChange lawS4764AStepSpec)

/-- ITS FALSE NEIGHBOUR: 'it returns false'. Refute it at one input. -/
def lawS4764AStepWrong : ChangeSpec := { name := "lawS4764AStep", fn := fun _ => fun
  | [d] => { results := [.lit (.bool false)], args := [d] }
  | _ => none }
def LawS4764AStepWrongFalsely : Prop := lawS4764AStepRow.holds Yba.pinned (OpenSpec.ofChange lawS4764AStepWrong)

/-- 'durance.LawS4764BSets': WHATEVER THE INPUT: true; the input reads as it did. -/
def lawS4764BSetsSpec : ChangeSpec := { name := "lawS4764BSets", fn := fun _ => fun
  | [d1, d2, d3, d4] => { results := [.lit (.bool true)], args := [d1, d2, d3, d4] }
  | _ => none }
def lawS4764BSetsRow : OpenClaim := { program := "ybulkctqg", sum := "24be9aac574349b765ccd60efdca07c104f2127263adc8e0f9369839982db492", func := "example.com/durance/durance.LawS4764BSets", spec := "lawS4764BSets", unfollowed := true, recurses := true, apart := false }
def LawS4764BSetsSaid : Prop := lawS4764BSetsRow.holds Yba.pinned (OpenSpec.ofChange lawS4764BSetsSpec)

/-- ITS FALSE NEIGHBOUR: 'it returns false'. Refute it at one input. -/
def lawS4764BSetsWrong : ChangeSpec := { name := "lawS4764BSets", fn := fun _ => fun
  | [d1, d2, d3, d4] => { results := [.lit (.bool false)], args := [d1, d2, d3, d4] }
  | _ => none }
def LawS4764BSetsWrongFalsely : Prop := lawS4764BSetsRow.holds Yba.pinned (OpenSpec.ofChange lawS4764BSetsWrong)

/-- 'durance.LawS4764BStringInstance': WHATEVER THE INPUT: true; the input reads as it did. -/
def lawS4764BStringInstanceSpec : ChangeSpec := { name := "lawS4764BStringInstance", fn := fun _ => fun
  | [d1, d2] => { results := [.lit (.bool true)], args := [d1, d2] }
  | _ => none }
def lawS4764BStringInstanceRow : OpenClaim := { program := "ybulkctqg", sum := "24be9aac574349b765ccd60efdca07c104f2127263adc8e0f9369839982db492", func := "example.com/durance/durance.LawS4764BStringInstance", spec := "lawS4764BStringInstance", unfollowed := true, recurses := true, apart := false }
def LawS4764BStringInstanceSaid : Prop := lawS4764BStringInstanceRow.holds Yba.pinned (OpenSpec.ofChange lawS4764BStringInstanceSpec)

/-- ITS FALSE NEIGHBOUR: 'it returns false'. Refute it at one input. -/
def lawS4764BStringInstanceWrong : ChangeSpec := { name := "lawS4764BStringInstance", fn := fun _ => fun
  | [d1, d2] => { results := [.lit (.bool false)], args := [d1, d2] }
  | _ => none }
def LawS4764BStringInstanceWrongFalsely : Prop := lawS4764BStringInstanceRow.holds Yba.pinned (OpenSpec.ofChange lawS4764BStringInstanceWrong)

/-- 'durance.LawS4764CModel': WHATEVER THE INPUT: true; the input reads as it did. -/
def lawS4764CModelSpec : ChangeSpec := { name := "lawS4764CModel", fn := fun _ => fun
  | [d1, d2, d3, d4, d5, d6] => { results := [.lit (.bool true)], args := [d1, d2, d3, d4, d5, d6] }
  | _ => none }
def lawS4764CModelRow : OpenClaim := { program := "ybulkctqg", sum := "24be9aac574349b765ccd60efdca07c104f2127263adc8e0f9369839982db492", func := "example.com/durance/durance.LawS4764CModel", spec := "lawS4764CModel", apart := false }
def LawS4764CModelSaid : Prop := lawS4764CModelRow.holds Yba.pinned (OpenSpec.ofChange lawS4764CModelSpec)

/-- ITS FALSE NEIGHBOUR: 'it returns false'. Refute it at one input. -/
def lawS4764CModelWrong : ChangeSpec := { name := "lawS4764CModel", fn := fun _ => fun
  | [d1, d2, d3, d4, d5, d6] => { results := [.lit (.bool false)], args := [d1, d2, d3, d4, d5, d6] }
  | _ => none }
def LawS4764CModelWrongFalsely : Prop := lawS4764CModelRow.holds Yba.pinned (OpenSpec.ofChange lawS4764CModelWrong)

/-- 'durance.LawS4764CShape': WHATEVER THE INPUT: true; the input reads as it did. -/
def lawS4764CShapeSpec : ChangeSpec := { name := "lawS4764CShape", fn := fun _ => fun
  | [d1, d2] => { results := [.lit (.bool true)], args := [d1, d2] }
  | _ => none }
def lawS4764CShapeRow : OpenClaim := { program := "ybulkctqg", sum := "24be9aac574349b765ccd60efdca07c104f2127263adc8e0f9369839982db492", func := "example.com/durance/durance.LawS4764CShape", spec := "lawS4764CShape", apart := false }
def LawS4764CShapeSaid : Prop := lawS4764CShapeRow.holds Yba.pinned (OpenSpec.ofChange lawS4764CShapeSpec)

/-- ITS FALSE NEIGHBOUR: 'it returns false'. Refute it at one input. -/
def lawS4764CShapeWrong : ChangeSpec := { name := "lawS4764CShape", fn := fun _ => fun
  | [d1, d2] => { results := [.lit (.bool false)], args := [d1, d2] }
  | _ => none }
def LawS4764CShapeWrongFalsely : Prop := lawS4764CShapeRow.holds Yba.pinned (OpenSpec.ofChange lawS4764CShapeWrong)

end Rows
end Go.Proofs.Ybulkctqg
