/-
  No cell of these rows narrows 'for every input' (looked for: loops, veiled, ifaces, maps, wideKeys, modest, calm, conditions, laid).
  DERIVED. THE GIVEN ROWS OF THIS SEAT. 3 by the template 'for every input the law returns true; each argument reads behind the call as it read before'; 0 by the template 'total and deterministic' (their statements: YbulkcuccTotals.lean).
  GIVEN WITH THE SEED: the statements are not yours to turn. If you find one false, say at which input.
  Laid BY PROGRAM, IN A SANDBOX (cutbox-rows.mjs): the forced cells as the released guide's own fill.sh prints them over the translation 766eb8fcd7b946bf… (all of the seat's roots in one cut). By AI agents, Wed Nov 11 2026. No macro, syntax, notation, axiom, sorry.
-/
import Derived.Test.YbulkcuccChecked
import GoSem.Claim
import GoSem.ClaimJoined
import GoSem.ClaimMapViews
import Derived.JoinedTies
import Derived.KernelRfl
namespace Go.Proofs.Ybulkcucc
/- THE CELL 'sum', in the pinned program and in every row, IS THE sha256 OF THE DUMP (.gsa) THAT YbulkcuccProg.lean LOADS. Nothing in Lean hashes anything: it is a label: what it is worth is what the hold of that sum in a sandbox is worth. -/
noncomputable def Yba.pinned : Pinned := { name := "ybulkcucc", sum := "766eb8fcd7b946bf3577dcf4dc2419ba34ec1661574c47fbe94bf1e9b80e1668", checked := Yba.checked }
namespace Rows
def none {H : Type} : Left H := { results := [], args := [] }

/-- 'xorlane.LawS4786AModel': WHATEVER THE INPUT: true; the input reads as it did. -/
def lawS4786AModelSpec : ChangeSpec := { name := "lawS4786AModel", fn := fun _ => fun
  | [d1, d2, d3, d4, d5, d6, d7] => { results := [.lit (.bool true)], args := [d1, d2, d3, d4, d5, d6, d7] }
  | _ => none }
def lawS4786AModelRow : OpenClaim := { program := "ybulkcucc", sum := "766eb8fcd7b946bf3577dcf4dc2419ba34ec1661574c47fbe94bf1e9b80e1668", func := "example.com/xorlane/xorlane.LawS4786AModel", spec := "lawS4786AModel", unfollowed := true, recurses := true, plainKeys := false, apart := false }
def LawS4786AModelSaid : Prop := lawS4786AModelRow.holds Yba.pinned (OpenSpec.ofChange lawS4786AModelSpec)

/-- ITS FALSE NEIGHBOUR: 'it returns false'. Refute it at one input. -/
def lawS4786AModelWrong : ChangeSpec := { name := "lawS4786AModel", fn := fun _ => fun
  | [d1, d2, d3, d4, d5, d6, d7] => { results := [.lit (.bool false)], args := [d1, d2, d3, d4, d5, d6, d7] }
  | _ => none }
def LawS4786AModelWrongFalsely : Prop := lawS4786AModelRow.holds Yba.pinned (OpenSpec.ofChange lawS4786AModelWrong)

/-- 'xorlane.LawS4786APut': WHATEVER THE INPUT: true; the input reads as it did. -/
def lawS4786APutSpec : ChangeSpec := { name := "lawS4786APut", fn := fun _ => fun
  | [d1, d2] => { results := [.lit (.bool true)], args := [d1, d2] }
  | _ => none }
def lawS4786APutRow : OpenClaim := { program := "ybulkcucc", sum := "766eb8fcd7b946bf3577dcf4dc2419ba34ec1661574c47fbe94bf1e9b80e1668", func := "example.com/xorlane/xorlane.LawS4786APut", spec := "lawS4786APut", unfollowed := true, recurses := true, plainKeys := false, apart := false }
def LawS4786APutSaid : Prop := lawS4786APutRow.holds Yba.pinned (OpenSpec.ofChange lawS4786APutSpec)

/-- ITS FALSE NEIGHBOUR: 'it returns false'. Refute it at one input. -/
def lawS4786APutWrong : ChangeSpec := { name := "lawS4786APut", fn := fun _ => fun
  | [d1, d2] => { results := [.lit (.bool false)], args := [d1, d2] }
  | _ => none }
def LawS4786APutWrongFalsely : Prop := lawS4786APutRow.holds Yba.pinned (OpenSpec.ofChange lawS4786APutWrong)

/-- 'krpc.LawS4786CEmptyDict': WHATEVER THE INPUT: true; the input reads as it did. -/
def lawS4786CEmptyDictSpec : ChangeSpec := { name := "lawS4786CEmptyDict", fn := fun _ => fun
  | [d] => { results := [.lit (.bool true)], args := [d] }
  | _ => none }
def lawS4786CEmptyDictRow : OpenClaim := { program := "ybulkcucc", sum := "766eb8fcd7b946bf3577dcf4dc2419ba34ec1661574c47fbe94bf1e9b80e1668", func := "example.com/xorlane/xorlane/internal/krpc.LawS4786CEmptyDict", spec := "lawS4786CEmptyDict", unfollowed := true, recurses := true, plainKeys := false, apart := false }
def LawS4786CEmptyDictSaid : Prop := lawS4786CEmptyDictRow.holds Yba.pinned (OpenSpec.ofChange lawS4786CEmptyDictSpec)

/-- ITS FALSE NEIGHBOUR: 'it returns false'. Refute it at one input. -/
def lawS4786CEmptyDictWrong : ChangeSpec := { name := "lawS4786CEmptyDict", fn := fun _ => fun
  | [d] => { results := [.lit (.bool false)], args := [d] }
  | _ => none }
def LawS4786CEmptyDictWrongFalsely : Prop := lawS4786CEmptyDictRow.holds Yba.pinned (OpenSpec.ofChange lawS4786CEmptyDictWrong)

end Rows
end Go.Proofs.Ybulkcucc
