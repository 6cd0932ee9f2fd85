/-
  No cell of these rows narrows 'for every input' (looked for: loops, veiled, ifaces, maps, wideKeys, modest, calm, conditions, laid).
  DERIVED. THE GIVEN ROWS OF THIS SEAT. 2 by the template 'for every input the law returns true; each argument reads behind the call as it read before'; 0 by the template 'total and deterministic' (their statements: YbulkcttmTotals.lean).
  GIVEN WITH THE SEED: the statements are not yours to turn. If you find one false, say at which input.
  Laid BY PROGRAM, IN A SANDBOX (cutbox-rows.mjs): the forced cells as the released guide's own fill.sh prints them over the translation ba62043beb275f6f… (all of the seat's roots in one cut). By AI agents, Wed Nov 11 2026. No macro, syntax, notation, axiom, sorry.
-/
import Derived.Test.YbulkcttmChecked
import GoSem.Claim
import GoSem.ClaimJoined
import GoSem.ClaimMapViews
import Derived.JoinedTies
import Derived.KernelRfl
namespace Go.Proofs.Ybulkcttm
/- THE CELL 'sum', in the pinned program and in every row, IS THE sha256 OF THE DUMP (.gsa) THAT YbulkcttmProg.lean LOADS. Nothing in Lean hashes anything: it is a label: what it is worth is what the hold of that sum in a sandbox is worth. -/
noncomputable def Yba.pinned : Pinned := { name := "ybulkcttm", sum := "ba62043beb275f6f7944929fcdeeb841fd43dda99e13920b6221b7c844f150a6", checked := Yba.checked }
namespace Rows
def none {H : Type} : Left H := { results := [], args := [] }

/-- 'gateway.LawS4770AKept': WHATEVER THE INPUT: true; the input reads as it did. -/
def lawS4770AKeptSpec : ChangeSpec := { name := "lawS4770AKept", fn := fun _ => fun
  | [d1, d2, d3, d4, d5] => { results := [.lit (.bool true)], args := [d1, d2, d3, d4, d5] }
  | _ => none }
def lawS4770AKeptRow : OpenClaim := { program := "ybulkcttm", sum := "ba62043beb275f6f7944929fcdeeb841fd43dda99e13920b6221b7c844f150a6", func := "example.com/rivr/rivr/internal/gateway.LawS4770AKept", spec := "lawS4770AKept", plainKeys := false, apart := false }
def LawS4770AKeptSaid : Prop := lawS4770AKeptRow.holds Yba.pinned (OpenSpec.ofChange lawS4770AKeptSpec)

/-- ITS FALSE NEIGHBOUR: 'it returns false'. Refute it at one input. -/
def lawS4770AKeptWrong : ChangeSpec := { name := "lawS4770AKept", fn := fun _ => fun
  | [d1, d2, d3, d4, d5] => { results := [.lit (.bool false)], args := [d1, d2, d3, d4, d5] }
  | _ => none }
def LawS4770AKeptWrongFalsely : Prop := lawS4770AKeptRow.holds Yba.pinned (OpenSpec.ofChange lawS4770AKeptWrong)

/-- 'streamable.LawS4770BExpire': WHATEVER THE INPUT: true; the input reads as it did. -/
def lawS4770BExpireSpec : ChangeSpec := { name := "lawS4770BExpire", fn := fun _ => fun
  | [d1, d2, d3, d4, d5, d6, d7] => { results := [.lit (.bool true)], args := [d1, d2, d3, d4, d5, d6, d7] }
  | _ => none }
def lawS4770BExpireRow : OpenClaim := { program := "ybulkcttm", sum := "ba62043beb275f6f7944929fcdeeb841fd43dda99e13920b6221b7c844f150a6", func := "example.com/rivr/rivr/internal/streamable.LawS4770BExpire", spec := "lawS4770BExpire", inPlace := ["(*internal/sync.Mutex).Lock", "internal/race.Disable", "sync/atomic.CompareAndSwapInt32", "internal/race.Enable", "internal/race.Acquire", "(*internal/sync.Mutex).lockSlow", "internal/sync.runtime_canSpin", "internal/sync.runtime_doSpin", "internal/sync.throw", "internal/sync.runtime_nanotime", "internal/sync.runtime_SemacquireMutex", "sync/atomic.AddInt32", "(*internal/sync.Mutex).Unlock", "internal/race.ReleaseMerge", "(*internal/sync.Mutex).unlockSlow", "internal/sync.fatal", "internal/sync.runtime_Semrelease"], unfollowed := true, recurses := true, plainKeys := false, apart := false }
def LawS4770BExpireSaid : Prop := lawS4770BExpireRow.holds Yba.pinned (OpenSpec.ofChange lawS4770BExpireSpec)

/-- ITS FALSE NEIGHBOUR: 'it returns false'. Refute it at one input. -/
def lawS4770BExpireWrong : ChangeSpec := { name := "lawS4770BExpire", fn := fun _ => fun
  | [d1, d2, d3, d4, d5, d6, d7] => { results := [.lit (.bool false)], args := [d1, d2, d3, d4, d5, d6, d7] }
  | _ => none }
def LawS4770BExpireWrongFalsely : Prop := lawS4770BExpireRow.holds Yba.pinned (OpenSpec.ofChange lawS4770BExpireWrong)

end Rows
end Go.Proofs.Ybulkcttm
