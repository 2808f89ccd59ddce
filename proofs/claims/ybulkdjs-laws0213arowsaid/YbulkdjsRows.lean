/-
  No cell of these rows narrows 'for every input' (looked for: loops, veiled, ifaces, maps, wideKeys, modest, calm, conditions, laid).
  DERIVED. THE GIVEN ROWS OF THIS SEAT. 1 by the template 'for every input the law returns true; each argument reads behind the call as it read before'; 0 by the template 'total and deterministic' (their statements: YbulkdjsTotals.lean).
  GIVEN WITH THE SEED: the statements are not yours to turn. If you find one false, say at which input.
  Laid BY PROGRAM, IN A SANDBOX (cutbox-rows.mjs): the forced cells as the released guide's own fill.sh prints them over the translation 6c84e142dd9cac51… (all of the seat's roots in one cut). By AI agents, Wed Nov 11 2026. No macro, syntax, notation, axiom, sorry.
-/
import Derived.Test.YbulkdjsChecked
import GoSem.Claim
import GoSem.ClaimJoined
import GoSem.ClaimMapViews
import Derived.JoinedTies
import Derived.KernelRfl
namespace Go.Proofs.Ybulkdjs
/- THE CELL 'sum', in the pinned program and in every row, IS THE sha256 OF THE DUMP (.gsa) THAT YbulkdjsProg.lean LOADS. Nothing in Lean hashes anything: it is a label: what it is worth is what the hold of that sum in a sandbox is worth. -/
noncomputable def Yba.pinned : Pinned := { name := "ybulkdjs", sum := "6c84e142dd9cac5191362cad5b074e582915b65002da2bb7e0f7fa19b81d6d8b", checked := Yba.checked }
namespace Rows
def none {H : Type} : Left H := { results := [], args := [] }

/-- 'namewright.LawS0213ARow': WHATEVER THE INPUT: true; the input reads as it did. -/
def lawS0213ARowSpec : ChangeSpec := { name := "lawS0213ARow", fn := fun _ => fun
  | [d] => { results := [.lit (.bool true)], args := [d] }
  | _ => none }
def lawS0213ARowRow : OpenClaim := { program := "ybulkdjs", sum := "6c84e142dd9cac5191362cad5b074e582915b65002da2bb7e0f7fa19b81d6d8b", func := "example.com/namewright/namewright.LawS0213ARow", spec := "lawS0213ARow", apart := false }
def LawS0213ARowSaid : Prop := lawS0213ARowRow.holds Yba.pinned (OpenSpec.ofChange lawS0213ARowSpec)

/-- ITS FALSE NEIGHBOUR: 'it returns false'. Refute it at one input. -/
def lawS0213ARowWrong : ChangeSpec := { name := "lawS0213ARow", fn := fun _ => fun
  | [d] => { results := [.lit (.bool false)], args := [d] }
  | _ => none }
def LawS0213ARowWrongFalsely : Prop := lawS0213ARowRow.holds Yba.pinned (OpenSpec.ofChange lawS0213ARowWrong)

end Rows
end Go.Proofs.Ybulkdjs
