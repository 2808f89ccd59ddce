/-
  No cell of these rows narrows 'for every input' (looked for: loops, veiled, ifaces, maps, wideKeys, modest, calm, conditions, laid).
  DERIVED. THE GIVEN ROWS OF THIS SEAT. 3 by the template 'for every input the law returns true; each argument reads behind the call as it read before'; 0 by the template 'total and deterministic' (their statements: YbulkdgmTotals.lean).
  GIVEN WITH THE SEED: the statements are not yours to turn. If you find one false, say at which input.
  Laid BY PROGRAM, IN A SANDBOX (cutbox-rows.mjs): the forced cells as the released guide's own fill.sh prints them over the translation ee3ca9f9d788ef30… (all of the seat's roots in one cut). By AI agents, Wed Nov 11 2026. No macro, syntax, notation, axiom, sorry.
-/
import Derived.Test.YbulkdgmChecked
import GoSem.Claim
import GoSem.ClaimJoined
import GoSem.ClaimMapViews
import Derived.JoinedTies
import Derived.KernelRfl
namespace Go.Proofs.Ybulkdgm
/- THE CELL 'sum', in the pinned program and in every row, IS THE sha256 OF THE DUMP (.gsa) THAT YbulkdgmProg.lean LOADS. Nothing in Lean hashes anything: it is a label: what it is worth is what the hold of that sum in a sandbox is worth. -/
noncomputable def Yba.pinned : Pinned := { name := "ybulkdgm", sum := "ee3ca9f9d788ef30d2c469e4c2b4d3219191049f0bfa73bd3dbbcfefbdbd3204", checked := Yba.checked }
namespace Rows
def none {H : Type} : Left H := { results := [], args := [] }

/-- 'forecast.LawS0207CZeroVar': WHATEVER THE INPUT: true; the input reads as it did. -/
def lawS0207CZeroVarSpec : ChangeSpec := { name := "lawS0207CZeroVar", fn := fun _ => fun
  | [d1, d2, d3, d4, d5, d6] => { results := [.lit (.bool true)], args := [d1, d2, d3, d4, d5, d6] }
  | _ => none }
def lawS0207CZeroVarRow : OpenClaim := { program := "ybulkdgm", sum := "ee3ca9f9d788ef30d2c469e4c2b4d3219191049f0bfa73bd3dbbcfefbdbd3204", func := "example.com/slowforget/slowforget/forecast.LawS0207CZeroVar", spec := "lawS0207CZeroVar", inPlace := ["math.Float64bits"], apart := false }
def LawS0207CZeroVarSaid : Prop := lawS0207CZeroVarRow.holds Yba.pinned (OpenSpec.ofChange lawS0207CZeroVarSpec)

/-- ITS FALSE NEIGHBOUR: 'it returns false'. Refute it at one input. -/
def lawS0207CZeroVarWrong : ChangeSpec := { name := "lawS0207CZeroVar", fn := fun _ => fun
  | [d1, d2, d3, d4, d5, d6] => { results := [.lit (.bool false)], args := [d1, d2, d3, d4, d5, d6] }
  | _ => none }
def LawS0207CZeroVarWrongFalsely : Prop := lawS0207CZeroVarRow.holds Yba.pinned (OpenSpec.ofChange lawS0207CZeroVarWrong)

/-- 'forecast.LawS0207COrderOne': WHATEVER THE INPUT: true; the input reads as it did. -/
def lawS0207COrderOneSpec : ChangeSpec := { name := "lawS0207COrderOne", fn := fun _ => fun
  | [d1, d2, d3, d4] => { results := [.lit (.bool true)], args := [d1, d2, d3, d4] }
  | _ => none }
def lawS0207COrderOneRow : OpenClaim := { program := "ybulkdgm", sum := "ee3ca9f9d788ef30d2c469e4c2b4d3219191049f0bfa73bd3dbbcfefbdbd3204", func := "example.com/slowforget/slowforget/forecast.LawS0207COrderOne", spec := "lawS0207COrderOne", apart := false }
def LawS0207COrderOneSaid : Prop := lawS0207COrderOneRow.holds Yba.pinned (OpenSpec.ofChange lawS0207COrderOneSpec)

/-- ITS FALSE NEIGHBOUR: 'it returns false'. Refute it at one input. -/
def lawS0207COrderOneWrong : ChangeSpec := { name := "lawS0207COrderOne", fn := fun _ => fun
  | [d1, d2, d3, d4] => { results := [.lit (.bool false)], args := [d1, d2, d3, d4] }
  | _ => none }
def LawS0207COrderOneWrongFalsely : Prop := lawS0207COrderOneRow.holds Yba.pinned (OpenSpec.ofChange lawS0207COrderOneWrong)

/-- 'forecast.LawS0207CShape': WHATEVER THE INPUT: true; the input reads as it did. -/
def lawS0207CShapeSpec : ChangeSpec := { name := "lawS0207CShape", fn := fun _ => fun
  | [d1, d2, d3, d4, d5, d6] => { results := [.lit (.bool true)], args := [d1, d2, d3, d4, d5, d6] }
  | _ => none }
def lawS0207CShapeRow : OpenClaim := { program := "ybulkdgm", sum := "ee3ca9f9d788ef30d2c469e4c2b4d3219191049f0bfa73bd3dbbcfefbdbd3204", func := "example.com/slowforget/slowforget/forecast.LawS0207CShape", spec := "lawS0207CShape", inPlace := ["math.Float64bits"], apart := false }
def LawS0207CShapeSaid : Prop := lawS0207CShapeRow.holds Yba.pinned (OpenSpec.ofChange lawS0207CShapeSpec)

/-- ITS FALSE NEIGHBOUR: 'it returns false'. Refute it at one input. -/
def lawS0207CShapeWrong : ChangeSpec := { name := "lawS0207CShape", fn := fun _ => fun
  | [d1, d2, d3, d4, d5, d6] => { results := [.lit (.bool false)], args := [d1, d2, d3, d4, d5, d6] }
  | _ => none }
def LawS0207CShapeWrongFalsely : Prop := lawS0207CShapeRow.holds Yba.pinned (OpenSpec.ofChange lawS0207CShapeWrong)

end Rows
end Go.Proofs.Ybulkdgm
