/-
  No cell of these rows narrows 'for every input' (looked for: loops, veiled, ifaces, maps, wideKeys, modest, calm, conditions, laid).
  DERIVED. THE GIVEN ROWS OF THIS SEAT. 2 by the template 'for every input the law returns true; each argument reads behind the call as it read before'; 0 by the template 'total and deterministic' (their statements: YbulkdjeTotals.lean).
  GIVEN WITH THE SEED: the statements are not yours to turn. If you find one false, say at which input.
  Laid BY PROGRAM, IN A SANDBOX (cutbox-rows.mjs): the forced cells as the released guide's own fill.sh prints them over the translation c715045c98110644… (all of the seat's roots in one cut). By AI agents, Wed Nov 11 2026. No macro, syntax, notation, axiom, sorry.
-/
import Derived.Test.YbulkdjeChecked
import GoSem.Claim
import GoSem.ClaimJoined
import GoSem.ClaimMapViews
import Derived.JoinedTies
import Derived.KernelRfl
namespace Go.Proofs.Ybulkdje
/- THE CELL 'sum', in the pinned program and in every row, IS THE sha256 OF THE DUMP (.gsa) THAT YbulkdjeProg.lean LOADS. Nothing in Lean hashes anything: it is a label: what it is worth is what the hold of that sum in a sandbox is worth. -/
noncomputable def Yba.pinned : Pinned := { name := "ybulkdje", sum := "c715045c98110644959f72ca52a5f18833640cb1b743328e98e7ce87a6d27959", checked := Yba.checked }
namespace Rows
def none {H : Type} : Left H := { results := [], args := [] }

/-- 'parse.LawS0212BFields': WHATEVER THE INPUT: true; the input reads as it did. -/
def lawS0212BFieldsSpec : ChangeSpec := { name := "lawS0212BFields", fn := fun _ => fun
  | [d1, d2, d3, d4, d5, d6, d7, d8, d9, d10] => { results := [.lit (.bool true)], args := [d1, d2, d3, d4, d5, d6, d7, d8, d9, d10] }
  | _ => none }
def lawS0212BFieldsRow : OpenClaim := { program := "ybulkdje", sum := "c715045c98110644959f72ca52a5f18833640cb1b743328e98e7ce87a6d27959", func := "example.com/farringdon/farringdon/internal/parse.LawS0212BFields", spec := "lawS0212BFields", apart := false }
def LawS0212BFieldsSaid : Prop := lawS0212BFieldsRow.holds Yba.pinned (OpenSpec.ofChange lawS0212BFieldsSpec)

/-- ITS FALSE NEIGHBOUR: 'it returns false'. Refute it at one input. -/
def lawS0212BFieldsWrong : ChangeSpec := { name := "lawS0212BFields", fn := fun _ => fun
  | [d1, d2, d3, d4, d5, d6, d7, d8, d9, d10] => { results := [.lit (.bool false)], args := [d1, d2, d3, d4, d5, d6, d7, d8, d9, d10] }
  | _ => none }
def LawS0212BFieldsWrongFalsely : Prop := lawS0212BFieldsRow.holds Yba.pinned (OpenSpec.ofChange lawS0212BFieldsWrong)

/-- 'parse.LawS0212BAgreesWithSetComplex': WHATEVER THE INPUT: true; the input reads as it did. -/
def lawS0212BAgreesWithSetComplexSpec : ChangeSpec := { name := "lawS0212BAgreesWithSetComplex", fn := fun _ => fun
  | [d] => { results := [.lit (.bool true)], args := [d] }
  | _ => none }
def lawS0212BAgreesWithSetComplexRow : OpenClaim := { program := "ybulkdje", sum := "c715045c98110644959f72ca52a5f18833640cb1b743328e98e7ce87a6d27959", func := "example.com/farringdon/farringdon/internal/parse.LawS0212BAgreesWithSetComplex", spec := "lawS0212BAgreesWithSetComplex", inPlace := ["math.archTrunc", "math.Float64bits", "math.Float64frombits"], apart := false }
def LawS0212BAgreesWithSetComplexSaid : Prop := lawS0212BAgreesWithSetComplexRow.holds Yba.pinned (OpenSpec.ofChange lawS0212BAgreesWithSetComplexSpec)

/-- ITS FALSE NEIGHBOUR: 'it returns false'. Refute it at one input. -/
def lawS0212BAgreesWithSetComplexWrong : ChangeSpec := { name := "lawS0212BAgreesWithSetComplex", fn := fun _ => fun
  | [d] => { results := [.lit (.bool false)], args := [d] }
  | _ => none }
def LawS0212BAgreesWithSetComplexWrongFalsely : Prop := lawS0212BAgreesWithSetComplexRow.holds Yba.pinned (OpenSpec.ofChange lawS0212BAgreesWithSetComplexWrong)

end Rows
end Go.Proofs.Ybulkdje
