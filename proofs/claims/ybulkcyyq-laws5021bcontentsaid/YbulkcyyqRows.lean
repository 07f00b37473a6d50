/-
  No cell of these rows narrows 'for every input' (looked for: loops, veiled, ifaces, maps, wideKeys, modest, calm, conditions, laid).
  DERIVED. THE GIVEN ROWS OF THIS SEAT. 2 by the template 'for every input the law returns true; each argument reads behind the call as it read before'; 0 by the template 'total and deterministic' (their statements: YbulkcyyqTotals.lean).
  GIVEN WITH THE SEED: the statements are not yours to turn. If you find one false, say at which input.
  Laid BY PROGRAM, IN A SANDBOX (cutbox-rows.mjs): the forced cells as the released guide's own fill.sh prints them over the translation f550e6a0db424a55… (all of the seat's roots in one cut). By AI agents, Wed Nov 11 2026. No macro, syntax, notation, axiom, sorry.
-/
import Derived.Test.YbulkcyyqChecked
import GoSem.Claim
import GoSem.ClaimJoined
import GoSem.ClaimMapViews
import Derived.JoinedTies
import Derived.KernelRfl
namespace Go.Proofs.Ybulkcyyq
/- THE CELL 'sum', in the pinned program and in every row, IS THE sha256 OF THE DUMP (.gsa) THAT YbulkcyyqProg.lean LOADS. Nothing in Lean hashes anything: it is a label: what it is worth is what the hold of that sum in a sandbox is worth. -/
noncomputable def Yba.pinned : Pinned := { name := "ybulkcyyq", sum := "f550e6a0db424a5505a1b5f73f6dbbeb91221709558a6b0ce0264535019e1679", checked := Yba.checked }
namespace Rows
def none {H : Type} : Left H := { results := [], args := [] }

/-- 'kv.LawS5021BContent': WHATEVER THE INPUT: true; the input reads as it did. -/
def lawS5021BContentSpec : ChangeSpec := { name := "lawS5021BContent", fn := fun _ => fun
  | [d1, d2] => { results := [.lit (.bool true)], args := [d1, d2] }
  | _ => none }
def lawS5021BContentRow : OpenClaim := { program := "ybulkcyyq", sum := "f550e6a0db424a5505a1b5f73f6dbbeb91221709558a6b0ce0264535019e1679", func := "example.com/antecede/antecede/kv.LawS5021BContent", spec := "lawS5021BContent", unfollowed := true, recurses := true, apart := false }
def LawS5021BContentSaid : Prop := lawS5021BContentRow.holds Yba.pinned (OpenSpec.ofChange lawS5021BContentSpec)

/-- ITS FALSE NEIGHBOUR: 'it returns false'. Refute it at one input. -/
def lawS5021BContentWrong : ChangeSpec := { name := "lawS5021BContent", fn := fun _ => fun
  | [d1, d2] => { results := [.lit (.bool false)], args := [d1, d2] }
  | _ => none }
def LawS5021BContentWrongFalsely : Prop := lawS5021BContentRow.holds Yba.pinned (OpenSpec.ofChange lawS5021BContentWrong)

/-- 'kv.LawS5021BStop': WHATEVER THE INPUT: true; the input reads as it did. -/
def lawS5021BStopSpec : ChangeSpec := { name := "lawS5021BStop", fn := fun _ => fun
  | [d1, d2, d3] => { results := [.lit (.bool true)], args := [d1, d2, d3] }
  | _ => none }
def lawS5021BStopRow : OpenClaim := { program := "ybulkcyyq", sum := "f550e6a0db424a5505a1b5f73f6dbbeb91221709558a6b0ce0264535019e1679", func := "example.com/antecede/antecede/kv.LawS5021BStop", spec := "lawS5021BStop", unfollowed := true, recurses := true, apart := false }
def LawS5021BStopSaid : Prop := lawS5021BStopRow.holds Yba.pinned (OpenSpec.ofChange lawS5021BStopSpec)

/-- ITS FALSE NEIGHBOUR: 'it returns false'. Refute it at one input. -/
def lawS5021BStopWrong : ChangeSpec := { name := "lawS5021BStop", fn := fun _ => fun
  | [d1, d2, d3] => { results := [.lit (.bool false)], args := [d1, d2, d3] }
  | _ => none }
def LawS5021BStopWrongFalsely : Prop := lawS5021BStopRow.holds Yba.pinned (OpenSpec.ofChange lawS5021BStopWrong)

end Rows
end Go.Proofs.Ybulkcyyq
