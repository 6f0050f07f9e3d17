/-
  No cell of these rows narrows 'for every input' (looked for: loops, veiled, ifaces, maps, wideKeys, modest, calm, conditions, laid).
  DERIVED. THE GIVEN ROWS OF THIS SEAT. 2 by the template 'for every input the law returns true; each argument reads behind the call as it read before'; 0 by the template 'total and deterministic' (their statements: YbulktzaTotals.lean).
  GIVEN WITH THE SEED: the statements are not yours to turn. If you find one false, say at which input.
  Laid BY PROGRAM, IN A SANDBOX (cutbox-rows.mjs): the forced cells as the released guide's own fill.sh prints them over the translation f2a88e623ebf6088… (all of the seat's roots in one cut). By AI agents, Wed Nov 11 2026. No macro, syntax, notation, axiom, sorry.
-/
import Derived.Test.YbulktzaChecked
import GoSem.Claim
import GoSem.ClaimJoined
import GoSem.ClaimMapViews
import Derived.JoinedTies
import Derived.KernelRfl
namespace Go.Proofs.Ybulktza
/- THE CELL 'sum', in the pinned program and in every row, IS THE sha256 OF THE DUMP (.gsa) THAT YbulktzaProg.lean LOADS. Nothing in Lean hashes anything: it is a label: what it is worth is what the hold of that sum in a sandbox is worth. -/
noncomputable def Yba.pinned : Pinned := { name := "ybulktza", sum := "f2a88e623ebf60883c95729fcad19379304484fe11db4276def3b1ea394081a0", checked := Yba.checked }
namespace Rows
def none {H : Type} : Left H := { results := [], args := [] }

/-- 'chronolattice.LawS1014AExact': WHATEVER THE INPUT: true; the input reads as it did. -/
def lawS1014AExactSpec : ChangeSpec := { name := "lawS1014AExact", fn := fun _ => fun
  | [d1, d2, d3, d4, d5, d6, d7] => { results := [.lit (.bool true)], args := [d1, d2, d3, d4, d5, d6, d7] }
  | _ => none }
def lawS1014AExactRow : OpenClaim := { program := "ybulktza", sum := "f2a88e623ebf60883c95729fcad19379304484fe11db4276def3b1ea394081a0", func := "example.com/chronolattice/chronolattice.LawS1014AExact", spec := "lawS1014AExact", apart := false }
def LawS1014AExactSaid : Prop := lawS1014AExactRow.holds Yba.pinned (OpenSpec.ofChange lawS1014AExactSpec)

/-- ITS FALSE NEIGHBOUR: 'it returns false'. Refute it at one input. -/
def lawS1014AExactWrong : ChangeSpec := { name := "lawS1014AExact", fn := fun _ => fun
  | [d1, d2, d3, d4, d5, d6, d7] => { results := [.lit (.bool false)], args := [d1, d2, d3, d4, d5, d6, d7] }
  | _ => none }
def LawS1014AExactWrongFalsely : Prop := lawS1014AExactRow.holds Yba.pinned (OpenSpec.ofChange lawS1014AExactWrong)

/-- 'chronolattice.LawS1014APrefix': WHATEVER THE INPUT: true; the input reads as it did. -/
def lawS1014APrefixSpec : ChangeSpec := { name := "lawS1014APrefix", fn := fun _ => fun
  | [d1, d2, d3, d4, d5, d6, d7] => { results := [.lit (.bool true)], args := [d1, d2, d3, d4, d5, d6, d7] }
  | _ => none }
def lawS1014APrefixRow : OpenClaim := { program := "ybulktza", sum := "f2a88e623ebf60883c95729fcad19379304484fe11db4276def3b1ea394081a0", func := "example.com/chronolattice/chronolattice.LawS1014APrefix", spec := "lawS1014APrefix", apart := false }
def LawS1014APrefixSaid : Prop := lawS1014APrefixRow.holds Yba.pinned (OpenSpec.ofChange lawS1014APrefixSpec)

/-- ITS FALSE NEIGHBOUR: 'it returns false'. Refute it at one input. -/
def lawS1014APrefixWrong : ChangeSpec := { name := "lawS1014APrefix", fn := fun _ => fun
  | [d1, d2, d3, d4, d5, d6, d7] => { results := [.lit (.bool false)], args := [d1, d2, d3, d4, d5, d6, d7] }
  | _ => none }
def LawS1014APrefixWrongFalsely : Prop := lawS1014APrefixRow.holds Yba.pinned (OpenSpec.ofChange lawS1014APrefixWrong)

end Rows
end Go.Proofs.Ybulktza
