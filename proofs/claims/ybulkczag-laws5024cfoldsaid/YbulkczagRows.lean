/-
  No cell of these rows narrows 'for every input' (looked for: loops, veiled, ifaces, maps, wideKeys, modest, calm, conditions, laid).
  DERIVED. THE GIVEN ROWS OF THIS SEAT. 2 by the template 'for every input the law returns true; each argument reads behind the call as it read before'; 0 by the template 'total and deterministic' (their statements: YbulkczagTotals.lean).
  GIVEN WITH THE SEED: the statements are not yours to turn. If you find one false, say at which input.
  Laid BY PROGRAM, IN A SANDBOX (cutbox-rows.mjs): the forced cells as the released guide's own fill.sh prints them over the translation 32b0531c6212d9b2… (all of the seat's roots in one cut). By AI agents, Wed Nov 11 2026. No macro, syntax, notation, axiom, sorry.
-/
import Derived.Test.YbulkczagChecked
import GoSem.Claim
import GoSem.ClaimJoined
import GoSem.ClaimMapViews
import Derived.JoinedTies
import Derived.KernelRfl
namespace Go.Proofs.Ybulkczag
/- THE CELL 'sum', in the pinned program and in every row, IS THE sha256 OF THE DUMP (.gsa) THAT YbulkczagProg.lean LOADS. Nothing in Lean hashes anything: it is a label: what it is worth is what the hold of that sum in a sandbox is worth. -/
noncomputable def Yba.pinned : Pinned := { name := "ybulkczag", sum := "32b0531c6212d9b22509704ba83a9d53c9e9fb6f12806b80b3bfc44121018227", checked := Yba.checked }
namespace Rows
def none {H : Type} : Left H := { results := [], args := [] }

/-- 'chronogrid.LawS5024CExact': WHATEVER THE INPUT: true; the input reads as it did. -/
def lawS5024CExactSpec : ChangeSpec := { name := "lawS5024CExact", fn := fun _ => fun
  | [d1, d2] => { results := [.lit (.bool true)], args := [d1, d2] }
  | _ => none }
def lawS5024CExactRow : OpenClaim := { program := "ybulkczag", sum := "32b0531c6212d9b22509704ba83a9d53c9e9fb6f12806b80b3bfc44121018227", func := "example.com/chronogrid/chronogrid.LawS5024CExact", spec := "lawS5024CExact", apart := false }
def LawS5024CExactSaid : Prop := lawS5024CExactRow.holds Yba.pinned (OpenSpec.ofChange lawS5024CExactSpec)

/-- ITS FALSE NEIGHBOUR: 'it returns false'. Refute it at one input. -/
def lawS5024CExactWrong : ChangeSpec := { name := "lawS5024CExact", fn := fun _ => fun
  | [d1, d2] => { results := [.lit (.bool false)], args := [d1, d2] }
  | _ => none }
def LawS5024CExactWrongFalsely : Prop := lawS5024CExactRow.holds Yba.pinned (OpenSpec.ofChange lawS5024CExactWrong)

/-- 'chronogrid.LawS5024CFold': WHATEVER THE INPUT: true; the input reads as it did. -/
def lawS5024CFoldSpec : ChangeSpec := { name := "lawS5024CFold", fn := fun _ => fun
  | [d1, d2, d3] => { results := [.lit (.bool true)], args := [d1, d2, d3] }
  | _ => none }
def lawS5024CFoldRow : OpenClaim := { program := "ybulkczag", sum := "32b0531c6212d9b22509704ba83a9d53c9e9fb6f12806b80b3bfc44121018227", func := "example.com/chronogrid/chronogrid.LawS5024CFold", spec := "lawS5024CFold", apart := false }
def LawS5024CFoldSaid : Prop := lawS5024CFoldRow.holds Yba.pinned (OpenSpec.ofChange lawS5024CFoldSpec)

/-- ITS FALSE NEIGHBOUR: 'it returns false'. Refute it at one input. -/
def lawS5024CFoldWrong : ChangeSpec := { name := "lawS5024CFold", fn := fun _ => fun
  | [d1, d2, d3] => { results := [.lit (.bool false)], args := [d1, d2, d3] }
  | _ => none }
def LawS5024CFoldWrongFalsely : Prop := lawS5024CFoldRow.holds Yba.pinned (OpenSpec.ofChange lawS5024CFoldWrong)

end Rows
end Go.Proofs.Ybulkczag
