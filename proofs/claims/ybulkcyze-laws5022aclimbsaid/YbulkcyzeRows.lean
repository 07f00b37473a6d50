/-
  No cell of these rows narrows 'for every input' (looked for: loops, veiled, ifaces, maps, wideKeys, modest, calm, conditions, laid).
  DERIVED. THE GIVEN ROWS OF THIS SEAT. 3 by the template 'for every input the law returns true; each argument reads behind the call as it read before'; 0 by the template 'total and deterministic' (their statements: YbulkcyzeTotals.lean).
  GIVEN WITH THE SEED: the statements are not yours to turn. If you find one false, say at which input.
  Laid BY PROGRAM, IN A SANDBOX (cutbox-rows.mjs): the forced cells as the released guide's own fill.sh prints them over the translation 4a2c65ce7df09ffc… (all of the seat's roots in one cut). By AI agents, Wed Nov 11 2026. No macro, syntax, notation, axiom, sorry.
-/
import Derived.Test.YbulkcyzeChecked
import GoSem.Claim
import GoSem.ClaimJoined
import GoSem.ClaimMapViews
import Derived.JoinedTies
import Derived.KernelRfl
namespace Go.Proofs.Ybulkcyze
/- THE CELL 'sum', in the pinned program and in every row, IS THE sha256 OF THE DUMP (.gsa) THAT YbulkcyzeProg.lean LOADS. Nothing in Lean hashes anything: it is a label: what it is worth is what the hold of that sum in a sandbox is worth. -/
noncomputable def Yba.pinned : Pinned := { name := "ybulkcyze", sum := "4a2c65ce7df09ffc3bd6cba628f2c6fd2627ac54ddc7dbf30d83969dfede31de", checked := Yba.checked }
namespace Rows
def none {H : Type} : Left H := { results := [], args := [] }

/-- 'palimpsest.LawS5022AClimb': WHATEVER THE INPUT: true; the input reads as it did. -/
def lawS5022AClimbSpec : ChangeSpec := { name := "lawS5022AClimb", fn := fun _ => fun
  | [d1, d2, d3, d4] => { results := [.lit (.bool true)], args := [d1, d2, d3, d4] }
  | _ => none }
def lawS5022AClimbRow : OpenClaim := { program := "ybulkcyze", sum := "4a2c65ce7df09ffc3bd6cba628f2c6fd2627ac54ddc7dbf30d83969dfede31de", func := "example.com/palimpsest/palimpsest.LawS5022AClimb", spec := "lawS5022AClimb", inPlace := ["(*internal/sync.Mutex).Lock", "internal/race.Disable", "sync/atomic.CompareAndSwapInt32", "internal/race.Enable", "internal/race.Acquire", "(*internal/sync.Mutex).lockSlow", "internal/sync.runtime_canSpin", "internal/sync.runtime_doSpin", "internal/sync.throw", "internal/sync.runtime_nanotime", "internal/sync.runtime_SemacquireMutex", "sync/atomic.AddInt32", "(*internal/sync.Mutex).Unlock", "internal/race.ReleaseMerge", "(*internal/sync.Mutex).unlockSlow", "internal/sync.fatal", "internal/sync.runtime_Semrelease", "(*internal/sync.Mutex).TryLock"], apart := false }
def LawS5022AClimbSaid : Prop := lawS5022AClimbRow.holds Yba.pinned (OpenSpec.ofChange lawS5022AClimbSpec)

/-- ITS FALSE NEIGHBOUR: 'it returns false'. Refute it at one input. -/
def lawS5022AClimbWrong : ChangeSpec := { name := "lawS5022AClimb", fn := fun _ => fun
  | [d1, d2, d3, d4] => { results := [.lit (.bool false)], args := [d1, d2, d3, d4] }
  | _ => none }
def LawS5022AClimbWrongFalsely : Prop := lawS5022AClimbRow.holds Yba.pinned (OpenSpec.ofChange lawS5022AClimbWrong)

/-- 'palimpsest.LawS5022CModel': WHATEVER THE INPUT: true; the input reads as it did. -/
def lawS5022CModelSpec : ChangeSpec := { name := "lawS5022CModel", fn := fun _ => fun
  | [d1, d2, d3] => { results := [.lit (.bool true)], args := [d1, d2, d3] }
  | _ => none }
def lawS5022CModelRow : OpenClaim := { program := "ybulkcyze", sum := "4a2c65ce7df09ffc3bd6cba628f2c6fd2627ac54ddc7dbf30d83969dfede31de", func := "example.com/palimpsest/palimpsest.LawS5022CModel", spec := "lawS5022CModel", unfollowed := true, recurses := true, apart := false }
def LawS5022CModelSaid : Prop := lawS5022CModelRow.holds Yba.pinned (OpenSpec.ofChange lawS5022CModelSpec)

/-- ITS FALSE NEIGHBOUR: 'it returns false'. Refute it at one input. -/
def lawS5022CModelWrong : ChangeSpec := { name := "lawS5022CModel", fn := fun _ => fun
  | [d1, d2, d3] => { results := [.lit (.bool false)], args := [d1, d2, d3] }
  | _ => none }
def LawS5022CModelWrongFalsely : Prop := lawS5022CModelRow.holds Yba.pinned (OpenSpec.ofChange lawS5022CModelWrong)

/-- 'palimpsest.LawS5022CHold': WHATEVER THE INPUT: true; the input reads as it did. -/
def lawS5022CHoldSpec : ChangeSpec := { name := "lawS5022CHold", fn := fun _ => fun
  | [d] => { results := [.lit (.bool true)], args := [d] }
  | _ => none }
def lawS5022CHoldRow : OpenClaim := { program := "ybulkcyze", sum := "4a2c65ce7df09ffc3bd6cba628f2c6fd2627ac54ddc7dbf30d83969dfede31de", func := "example.com/palimpsest/palimpsest.LawS5022CHold", spec := "lawS5022CHold", inPlace := ["slices.overlaps[example.com/palimpsest/palimpsest.heldSnapshot]"], unfollowed := true, recurses := true, apart := false }
def LawS5022CHoldSaid : Prop := lawS5022CHoldRow.holds Yba.pinned (OpenSpec.ofChange lawS5022CHoldSpec)

/-- ITS FALSE NEIGHBOUR: 'it returns false'. Refute it at one input. -/
def lawS5022CHoldWrong : ChangeSpec := { name := "lawS5022CHold", fn := fun _ => fun
  | [d] => { results := [.lit (.bool false)], args := [d] }
  | _ => none }
def LawS5022CHoldWrongFalsely : Prop := lawS5022CHoldRow.holds Yba.pinned (OpenSpec.ofChange lawS5022CHoldWrong)

end Rows
end Go.Proofs.Ybulkcyze
