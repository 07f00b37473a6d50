/-
  No cell of these rows narrows 'for every input' (looked for: loops, veiled, ifaces, maps, wideKeys, modest, calm, conditions, laid).
  DERIVED. THE GIVEN ROWS OF THIS SEAT. 2 by the template 'for every input the law returns true; each argument reads behind the call as it read before'; 0 by the template 'total and deterministic' (their statements: YbulkczauTotals.lean).
  GIVEN WITH THE SEED: the statements are not yours to turn. If you find one false, say at which input.
  Laid BY PROGRAM, IN A SANDBOX (cutbox-rows.mjs): the forced cells as the released guide's own fill.sh prints them over the translation 965545c38154070a… (all of the seat's roots in one cut). By AI agents, Wed Nov 11 2026. No macro, syntax, notation, axiom, sorry.
-/
import Derived.Test.YbulkczauChecked
import GoSem.Claim
import GoSem.ClaimJoined
import GoSem.ClaimMapViews
import Derived.JoinedTies
import Derived.KernelRfl
namespace Go.Proofs.Ybulkczau
/- THE CELL 'sum', in the pinned program and in every row, IS THE sha256 OF THE DUMP (.gsa) THAT YbulkczauProg.lean LOADS. Nothing in Lean hashes anything: it is a label: what it is worth is what the hold of that sum in a sandbox is worth. -/
noncomputable def Yba.pinned : Pinned := { name := "ybulkczau", sum := "965545c38154070ab16fff05cb777b2737daeb7e5a4b18dafa5852efae646a9b", checked := Yba.checked }
namespace Rows
def none {H : Type} : Left H := { results := [], args := [] }

/-- 'stillround.LawS5025ASize': WHATEVER THE INPUT: true; the input reads as it did. -/
def lawS5025ASizeSpec : ChangeSpec := { name := "lawS5025ASize", fn := fun _ => fun
  | [d1, d2, d3, d4, d5, d6, d7, d8, d9] => { results := [.lit (.bool true)], args := [d1, d2, d3, d4, d5, d6, d7, d8, d9] }
  | _ => none }
def lawS5025ASizeRow : OpenClaim := { program := "ybulkczau", sum := "965545c38154070ab16fff05cb777b2737daeb7e5a4b18dafa5852efae646a9b", func := "example.com/stillround/stillround.LawS5025ASize", spec := "lawS5025ASize", inPlace := ["internal/abi.NoEscape", "internal/bytealg.MakeNoZero"], unfollowed := true, recurses := true, apart := false }
def LawS5025ASizeSaid : Prop := lawS5025ASizeRow.holds Yba.pinned (OpenSpec.ofChange lawS5025ASizeSpec)

/-- ITS FALSE NEIGHBOUR: 'it returns false'. Refute it at one input. -/
def lawS5025ASizeWrong : ChangeSpec := { name := "lawS5025ASize", fn := fun _ => fun
  | [d1, d2, d3, d4, d5, d6, d7, d8, d9] => { results := [.lit (.bool false)], args := [d1, d2, d3, d4, d5, d6, d7, d8, d9] }
  | _ => none }
def LawS5025ASizeWrongFalsely : Prop := lawS5025ASizeRow.holds Yba.pinned (OpenSpec.ofChange lawS5025ASizeWrong)

/-- 'protocol.LawS5025CChoose': WHATEVER THE INPUT: true; the input reads as it did. -/
def lawS5025CChooseSpec : ChangeSpec := { name := "lawS5025CChoose", fn := fun _ => fun
  | [d1, d2, d3, d4, d5, d6, d7, d8] => { results := [.lit (.bool true)], args := [d1, d2, d3, d4, d5, d6, d7, d8] }
  | _ => none }
def lawS5025CChooseRow : OpenClaim := { program := "ybulkczau", sum := "965545c38154070ab16fff05cb777b2737daeb7e5a4b18dafa5852efae646a9b", func := "example.com/stillround/stillround/internal/protocol.LawS5025CChoose", spec := "lawS5025CChoose", unfollowed := true, recurses := true, apart := false }
def LawS5025CChooseSaid : Prop := lawS5025CChooseRow.holds Yba.pinned (OpenSpec.ofChange lawS5025CChooseSpec)

/-- ITS FALSE NEIGHBOUR: 'it returns false'. Refute it at one input. -/
def lawS5025CChooseWrong : ChangeSpec := { name := "lawS5025CChoose", fn := fun _ => fun
  | [d1, d2, d3, d4, d5, d6, d7, d8] => { results := [.lit (.bool false)], args := [d1, d2, d3, d4, d5, d6, d7, d8] }
  | _ => none }
def LawS5025CChooseWrongFalsely : Prop := lawS5025CChooseRow.holds Yba.pinned (OpenSpec.ofChange lawS5025CChooseWrong)

end Rows
end Go.Proofs.Ybulkczau
