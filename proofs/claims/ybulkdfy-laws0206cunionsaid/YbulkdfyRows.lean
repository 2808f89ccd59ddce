/-
  No cell of these rows narrows 'for every input' (looked for: loops, veiled, ifaces, maps, wideKeys, modest, calm, conditions, laid).
  DERIVED. THE GIVEN ROWS OF THIS SEAT. 2 by the template 'for every input the law returns true; each argument reads behind the call as it read before'; 0 by the template 'total and deterministic' (their statements: YbulkdfyTotals.lean).
  GIVEN WITH THE SEED: the statements are not yours to turn. If you find one false, say at which input.
  Laid BY PROGRAM, IN A SANDBOX (cutbox-rows.mjs): the forced cells as the released guide's own fill.sh prints them over the translation 0fd5afcdaf5f69ac… (all of the seat's roots in one cut). By AI agents, Wed Nov 11 2026. No macro, syntax, notation, axiom, sorry.
-/
import Derived.Test.YbulkdfyChecked
import GoSem.Claim
import GoSem.ClaimJoined
import GoSem.ClaimMapViews
import Derived.JoinedTies
import Derived.KernelRfl
namespace Go.Proofs.Ybulkdfy
/- THE CELL 'sum', in the pinned program and in every row, IS THE sha256 OF THE DUMP (.gsa) THAT YbulkdfyProg.lean LOADS. Nothing in Lean hashes anything: it is a label: what it is worth is what the hold of that sum in a sandbox is worth. -/
noncomputable def Yba.pinned : Pinned := { name := "ybulkdfy", sum := "0fd5afcdaf5f69acad608378a0f32b1ddd256e7e2476f3bf65e81f15eea2f7e6", checked := Yba.checked }
namespace Rows
def none {H : Type} : Left H := { results := [], args := [] }

/-- 'hs.LawS0206CSingle': WHATEVER THE INPUT: true; the input reads as it did. -/
def lawS0206CSingleSpec : ChangeSpec := { name := "lawS0206CSingle", fn := fun _ => fun
  | [d1, d2, d3] => { results := [.lit (.bool true)], args := [d1, d2, d3] }
  | _ => none }
def lawS0206CSingleRow : OpenClaim := { program := "ybulkdfy", sum := "0fd5afcdaf5f69acad608378a0f32b1ddd256e7e2476f3bf65e81f15eea2f7e6", func := "example.com/tariffshift/tariffshift/hs.LawS0206CSingle", spec := "lawS0206CSingle", unfollowed := true, recurses := true, apart := false }
def LawS0206CSingleSaid : Prop := lawS0206CSingleRow.holds Yba.pinned (OpenSpec.ofChange lawS0206CSingleSpec)

/-- ITS FALSE NEIGHBOUR: 'it returns false'. Refute it at one input. -/
def lawS0206CSingleWrong : ChangeSpec := { name := "lawS0206CSingle", fn := fun _ => fun
  | [d1, d2, d3] => { results := [.lit (.bool false)], args := [d1, d2, d3] }
  | _ => none }
def LawS0206CSingleWrongFalsely : Prop := lawS0206CSingleRow.holds Yba.pinned (OpenSpec.ofChange lawS0206CSingleWrong)

/-- 'hs.LawS0206CUnion': WHATEVER THE INPUT: true; the input reads as it did. -/
def lawS0206CUnionSpec : ChangeSpec := { name := "lawS0206CUnion", fn := fun _ => fun
  | [d1, d2, d3, d4, d5, d6] => { results := [.lit (.bool true)], args := [d1, d2, d3, d4, d5, d6] }
  | _ => none }
def lawS0206CUnionRow : OpenClaim := { program := "ybulkdfy", sum := "0fd5afcdaf5f69acad608378a0f32b1ddd256e7e2476f3bf65e81f15eea2f7e6", func := "example.com/tariffshift/tariffshift/hs.LawS0206CUnion", spec := "lawS0206CUnion", unfollowed := true, recurses := true, apart := false }
def LawS0206CUnionSaid : Prop := lawS0206CUnionRow.holds Yba.pinned (OpenSpec.ofChange lawS0206CUnionSpec)

/-- ITS FALSE NEIGHBOUR: 'it returns false'. Refute it at one input. -/
def lawS0206CUnionWrong : ChangeSpec := { name := "lawS0206CUnion", fn := fun _ => fun
  | [d1, d2, d3, d4, d5, d6] => { results := [.lit (.bool false)], args := [d1, d2, d3, d4, d5, d6] }
  | _ => none }
def LawS0206CUnionWrongFalsely : Prop := lawS0206CUnionRow.holds Yba.pinned (OpenSpec.ofChange lawS0206CUnionWrong)

end Rows
end Go.Proofs.Ybulkdfy
