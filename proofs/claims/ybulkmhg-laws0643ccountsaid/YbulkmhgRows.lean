/-
  No cell of these rows narrows 'for every input' (looked for: loops, veiled, ifaces, maps, wideKeys, modest, calm, conditions, laid).
  DERIVED. THE GIVEN ROWS OF THIS SEAT. 2 by the template 'for every input the law returns true; each argument reads behind the call as it read before'; 0 by the template 'total and deterministic' (their statements: YbulkmhgTotals.lean).
  GIVEN WITH THE SEED: the statements are not yours to turn. If you find one false, say at which input.
  Laid BY PROGRAM, IN A SANDBOX (cutbox-rows.mjs): the forced cells as the released guide's own fill.sh prints them over the translation 550e8890eff58587… (all of the seat's roots in one cut). By AI agents, Wed Nov 11 2026. No macro, syntax, notation, axiom, sorry.
-/
import Derived.Test.YbulkmhgChecked
import GoSem.Claim
import GoSem.ClaimJoined
import GoSem.ClaimMapViews
import Derived.JoinedTies
import Derived.KernelRfl
namespace Go.Proofs.Ybulkmhg
/- THE CELL 'sum', in the pinned program and in every row, IS THE sha256 OF THE DUMP (.gsa) THAT YbulkmhgProg.lean LOADS. Nothing in Lean hashes anything: it is a label: what it is worth is what the hold of that sum in a sandbox is worth. -/
noncomputable def Yba.pinned : Pinned := { name := "ybulkmhg", sum := "550e8890eff58587cc2461a2c884e97a1257801d3bf039ec34fabec1a505a9bb", checked := Yba.checked }
namespace Rows
def none {H : Type} : Left H := { results := [], args := [] }

/-- 'datafolder.LawS0643CCount': WHATEVER THE INPUT: true; the input reads as it did. -/
def lawS0643CCountSpec : ChangeSpec := { name := "lawS0643CCount", fn := fun _ => fun
  | [d] => { results := [.lit (.bool true)], args := [d] }
  | _ => none }
def lawS0643CCountRow : OpenClaim := { program := "ybulkmhg", sum := "550e8890eff58587cc2461a2c884e97a1257801d3bf039ec34fabec1a505a9bb", func := "example.com/kindred-gate/kindred-gate/internal/datafolder.LawS0643CCount", spec := "lawS0643CCount", inPlace := ["(*sync.RWMutex).RLock", "internal/race.Read", "internal/race.Disable", "sync/atomic.AddInt32", "sync.runtime_SemacquireRWMutexR", "internal/race.Enable", "internal/race.Acquire", "(*sync.RWMutex).RUnlock", "internal/race.ReleaseMerge", "(*sync.RWMutex).rUnlockSlow", "sync.fatal", "sync.runtime_Semrelease"], apart := false }
def LawS0643CCountSaid : Prop := lawS0643CCountRow.holds Yba.pinned (OpenSpec.ofChange lawS0643CCountSpec)

/-- ITS FALSE NEIGHBOUR: 'it returns false'. Refute it at one input. -/
def lawS0643CCountWrong : ChangeSpec := { name := "lawS0643CCount", fn := fun _ => fun
  | [d] => { results := [.lit (.bool false)], args := [d] }
  | _ => none }
def LawS0643CCountWrongFalsely : Prop := lawS0643CCountRow.holds Yba.pinned (OpenSpec.ofChange lawS0643CCountWrong)

/-- 'datafolder.LawS0643CStep': WHATEVER THE INPUT: true; the input reads as it did. -/
def lawS0643CStepSpec : ChangeSpec := { name := "lawS0643CStep", fn := fun _ => fun
  | [d] => { results := [.lit (.bool true)], args := [d] }
  | _ => none }
def lawS0643CStepRow : OpenClaim := { program := "ybulkmhg", sum := "550e8890eff58587cc2461a2c884e97a1257801d3bf039ec34fabec1a505a9bb", func := "example.com/kindred-gate/kindred-gate/internal/datafolder.LawS0643CStep", spec := "lawS0643CStep", inPlace := ["(*sync.RWMutex).RLock", "internal/race.Read", "internal/race.Disable", "sync/atomic.AddInt32", "sync.runtime_SemacquireRWMutexR", "internal/race.Enable", "internal/race.Acquire", "(*sync.RWMutex).RUnlock", "internal/race.ReleaseMerge", "(*sync.RWMutex).rUnlockSlow", "sync.fatal", "sync.runtime_Semrelease", "internal/abi.NoEscape", "internal/bytealg.MakeNoZero"], unfollowed := true, recurses := true, apart := false }
def LawS0643CStepSaid : Prop := lawS0643CStepRow.holds Yba.pinned (OpenSpec.ofChange lawS0643CStepSpec)

/-- ITS FALSE NEIGHBOUR: 'it returns false'. Refute it at one input. -/
def lawS0643CStepWrong : ChangeSpec := { name := "lawS0643CStep", fn := fun _ => fun
  | [d] => { results := [.lit (.bool false)], args := [d] }
  | _ => none }
def LawS0643CStepWrongFalsely : Prop := lawS0643CStepRow.holds Yba.pinned (OpenSpec.ofChange lawS0643CStepWrong)

end Rows
end Go.Proofs.Ybulkmhg
