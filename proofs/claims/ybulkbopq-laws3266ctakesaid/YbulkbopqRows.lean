/-
  No cell of these rows narrows 'for every input' (looked for: loops, veiled, ifaces, maps, wideKeys, modest, calm, conditions, laid).
  DERIVED. THE GIVEN ROWS OF THIS SEAT. 5 by the template 'for every input the law returns true; each argument reads behind the call as it read before'; 0 by the template 'total and deterministic' (their statements: YbulkbopqTotals.lean).
  GIVEN WITH THE SEED: the statements are not yours to turn. If you find one false, say at which input.
  Laid BY PROGRAM, IN A SANDBOX (cutbox-rows.mjs): the forced cells as the released guide's own fill.sh prints them over the translation 670206ecc163245e… (all of the seat's roots in one cut). By AI agents, Wed Nov 11 2026. No macro, syntax, notation, axiom, sorry.
-/
import Derived.Test.YbulkbopqChecked
import GoSem.Claim
import GoSem.ClaimJoined
import GoSem.ClaimMapViews
import Derived.JoinedTies
import Derived.KernelRfl
namespace Go.Proofs.Ybulkbopq
/- THE CELL 'sum', in the pinned program and in every row, IS THE sha256 OF THE DUMP (.gsa) THAT YbulkbopqProg.lean LOADS. Nothing in Lean hashes anything: it is a label: what it is worth is what the hold of that sum in a sandbox is worth. -/
noncomputable def Yba.pinned : Pinned := { name := "ybulkbopq", sum := "670206ecc163245e3b4785be8c6e3df6caadcab797fd0c4f27482ed1053730e0", checked := Yba.checked }
namespace Rows
def none {H : Type} : Left H := { results := [], args := [] }

/-- 'heapstrata.LawS3266AExact': WHATEVER THE INPUT: true; the input reads as it did. -/
def lawS3266AExactSpec : ChangeSpec := { name := "lawS3266AExact", fn := fun _ => fun
  | [d1, d2] => { results := [.lit (.bool true)], args := [d1, d2] }
  | _ => none }
def lawS3266AExactRow : OpenClaim := { program := "ybulkbopq", sum := "670206ecc163245e3b4785be8c6e3df6caadcab797fd0c4f27482ed1053730e0", func := "example.com/heapstrata/heapstrata.LawS3266AExact", spec := "lawS3266AExact", plainKeys := false, apart := false }
def LawS3266AExactSaid : Prop := lawS3266AExactRow.holds Yba.pinned (OpenSpec.ofChange lawS3266AExactSpec)

/-- ITS FALSE NEIGHBOUR: 'it returns false'. Refute it at one input. -/
def lawS3266AExactWrong : ChangeSpec := { name := "lawS3266AExact", fn := fun _ => fun
  | [d1, d2] => { results := [.lit (.bool false)], args := [d1, d2] }
  | _ => none }
def LawS3266AExactWrongFalsely : Prop := lawS3266AExactRow.holds Yba.pinned (OpenSpec.ofChange lawS3266AExactWrong)

/-- 'heapstrata.LawS3266ATwice': WHATEVER THE INPUT: true; the input reads as it did. -/
def lawS3266ATwiceSpec : ChangeSpec := { name := "lawS3266ATwice", fn := fun _ => fun
  | [d1, d2, d3] => { results := [.lit (.bool true)], args := [d1, d2, d3] }
  | _ => none }
def lawS3266ATwiceRow : OpenClaim := { program := "ybulkbopq", sum := "670206ecc163245e3b4785be8c6e3df6caadcab797fd0c4f27482ed1053730e0", func := "example.com/heapstrata/heapstrata.LawS3266ATwice", spec := "lawS3266ATwice", plainKeys := false, apart := false }
def LawS3266ATwiceSaid : Prop := lawS3266ATwiceRow.holds Yba.pinned (OpenSpec.ofChange lawS3266ATwiceSpec)

/-- ITS FALSE NEIGHBOUR: 'it returns false'. Refute it at one input. -/
def lawS3266ATwiceWrong : ChangeSpec := { name := "lawS3266ATwice", fn := fun _ => fun
  | [d1, d2, d3] => { results := [.lit (.bool false)], args := [d1, d2, d3] }
  | _ => none }
def LawS3266ATwiceWrongFalsely : Prop := lawS3266ATwiceRow.holds Yba.pinned (OpenSpec.ofChange lawS3266ATwiceWrong)

/-- 'heapstrata.LawS3266BModel': WHATEVER THE INPUT: true; the input reads as it did. -/
def lawS3266BModelSpec : ChangeSpec := { name := "lawS3266BModel", fn := fun _ => fun
  | [d1, d2, d3, d4] => { results := [.lit (.bool true)], args := [d1, d2, d3, d4] }
  | _ => none }
def lawS3266BModelRow : OpenClaim := { program := "ybulkbopq", sum := "670206ecc163245e3b4785be8c6e3df6caadcab797fd0c4f27482ed1053730e0", func := "example.com/heapstrata/heapstrata.LawS3266BModel", spec := "lawS3266BModel", inPlace := ["(*sync.RWMutex).RLock", "internal/race.Read", "internal/race.Disable", "sync/atomic.AddInt32", "sync.runtime_SemacquireRWMutexR", "internal/race.Enable", "internal/race.Acquire", "(*sync.RWMutex).RUnlock", "internal/race.ReleaseMerge", "(*sync.RWMutex).rUnlockSlow", "sync.fatal", "sync.runtime_Semrelease"], plainKeys := false, apart := false }
def LawS3266BModelSaid : Prop := lawS3266BModelRow.holds Yba.pinned (OpenSpec.ofChange lawS3266BModelSpec)

/-- ITS FALSE NEIGHBOUR: 'it returns false'. Refute it at one input. -/
def lawS3266BModelWrong : ChangeSpec := { name := "lawS3266BModel", fn := fun _ => fun
  | [d1, d2, d3, d4] => { results := [.lit (.bool false)], args := [d1, d2, d3, d4] }
  | _ => none }
def LawS3266BModelWrongFalsely : Prop := lawS3266BModelRow.holds Yba.pinned (OpenSpec.ofChange lawS3266BModelWrong)

/-- 'heapstrata.LawS3266BOwnTop': WHATEVER THE INPUT: true; the input reads as it did. -/
def lawS3266BOwnTopSpec : ChangeSpec := { name := "lawS3266BOwnTop", fn := fun _ => fun
  | [d1, d2, d3] => { results := [.lit (.bool true)], args := [d1, d2, d3] }
  | _ => none }
def lawS3266BOwnTopRow : OpenClaim := { program := "ybulkbopq", sum := "670206ecc163245e3b4785be8c6e3df6caadcab797fd0c4f27482ed1053730e0", func := "example.com/heapstrata/heapstrata.LawS3266BOwnTop", spec := "lawS3266BOwnTop", inPlace := ["(*sync.RWMutex).RLock", "internal/race.Read", "internal/race.Disable", "sync/atomic.AddInt32", "sync.runtime_SemacquireRWMutexR", "internal/race.Enable", "internal/race.Acquire", "(*sync.RWMutex).RUnlock", "internal/race.ReleaseMerge", "(*sync.RWMutex).rUnlockSlow", "sync.fatal", "sync.runtime_Semrelease"], plainKeys := false, apart := false }
def LawS3266BOwnTopSaid : Prop := lawS3266BOwnTopRow.holds Yba.pinned (OpenSpec.ofChange lawS3266BOwnTopSpec)

/-- ITS FALSE NEIGHBOUR: 'it returns false'. Refute it at one input. -/
def lawS3266BOwnTopWrong : ChangeSpec := { name := "lawS3266BOwnTop", fn := fun _ => fun
  | [d1, d2, d3] => { results := [.lit (.bool false)], args := [d1, d2, d3] }
  | _ => none }
def LawS3266BOwnTopWrongFalsely : Prop := lawS3266BOwnTopRow.holds Yba.pinned (OpenSpec.ofChange lawS3266BOwnTopWrong)

/-- 'heapstrata.LawS3266CTake': WHATEVER THE INPUT: true; the input reads as it did. -/
def lawS3266CTakeSpec : ChangeSpec := { name := "lawS3266CTake", fn := fun _ => fun
  | [d1, d2, d3, d4, d5] => { results := [.lit (.bool true)], args := [d1, d2, d3, d4, d5] }
  | _ => none }
def lawS3266CTakeRow : OpenClaim := { program := "ybulkbopq", sum := "670206ecc163245e3b4785be8c6e3df6caadcab797fd0c4f27482ed1053730e0", func := "example.com/heapstrata/heapstrata.LawS3266CTake", spec := "lawS3266CTake", inPlace := ["internal/bytealg.Compare"], unfollowed := true, recurses := true, plainKeys := false, apart := false }
def LawS3266CTakeSaid : Prop := lawS3266CTakeRow.holds Yba.pinned (OpenSpec.ofChange lawS3266CTakeSpec)

/-- ITS FALSE NEIGHBOUR: 'it returns false'. Refute it at one input. -/
def lawS3266CTakeWrong : ChangeSpec := { name := "lawS3266CTake", fn := fun _ => fun
  | [d1, d2, d3, d4, d5] => { results := [.lit (.bool false)], args := [d1, d2, d3, d4, d5] }
  | _ => none }
def LawS3266CTakeWrongFalsely : Prop := lawS3266CTakeRow.holds Yba.pinned (OpenSpec.ofChange lawS3266CTakeWrong)

end Rows
end Go.Proofs.Ybulkbopq
