/-
  No cell of these rows narrows 'for every input' (looked for: loops, veiled, ifaces, maps, wideKeys, modest, calm, conditions, laid).
  DERIVED. THE GIVEN ROWS OF THIS SEAT. 2 by the template 'for every input the law returns true; each argument reads behind the call as it read before'; 0 by the template 'total and deterministic' (their statements: YbulkubsTotals.lean).
  GIVEN WITH THE SEED: the statements are not yours to turn. If you find one false, say at which input.
  Laid BY PROGRAM, IN A SANDBOX (cutbox-rows.mjs): the forced cells as the released guide's own fill.sh prints them over the translation 526eb49a260b4308… (all of the seat's roots in one cut). By AI agents, Wed Nov 11 2026. No macro, syntax, notation, axiom, sorry.
-/
import Derived.Test.YbulkubsChecked
import GoSem.Claim
import GoSem.ClaimJoined
import GoSem.ClaimMapViews
import Derived.JoinedTies
import Derived.KernelRfl
namespace Go.Proofs.Ybulkubs
/- THE CELL 'sum', in the pinned program and in every row, IS THE sha256 OF THE DUMP (.gsa) THAT YbulkubsProg.lean LOADS. Nothing in Lean hashes anything: it is a label: what it is worth is what the hold of that sum in a sandbox is worth. -/
noncomputable def Yba.pinned : Pinned := { name := "ybulkubs", sum := "526eb49a260b4308c80e4fef1ec77ba37919ccf58e39f315c7dd701328acfe6e", checked := Yba.checked }
namespace Rows
def none {H : Type} : Left H := { results := [], args := [] }

/-- 'capture.LawS1019BOrder': WHATEVER THE INPUT: true; the input reads as it did. -/
def lawS1019BOrderSpec : ChangeSpec := { name := "lawS1019BOrder", fn := fun _ => fun
  | [d1, d2, d3, d4, d5] => { results := [.lit (.bool true)], args := [d1, d2, d3, d4, d5] }
  | _ => none }
def lawS1019BOrderRow : OpenClaim := { program := "ybulkubs", sum := "526eb49a260b4308c80e4fef1ec77ba37919ccf58e39f315c7dd701328acfe6e", func := "example.com/stillstream/stillstream/capture.LawS1019BOrder", spec := "lawS1019BOrder", unfollowed := true, recurses := true, apart := false }
def LawS1019BOrderSaid : Prop := lawS1019BOrderRow.holds Yba.pinned (OpenSpec.ofChange lawS1019BOrderSpec)

/-- ITS FALSE NEIGHBOUR: 'it returns false'. Refute it at one input. -/
def lawS1019BOrderWrong : ChangeSpec := { name := "lawS1019BOrder", fn := fun _ => fun
  | [d1, d2, d3, d4, d5] => { results := [.lit (.bool false)], args := [d1, d2, d3, d4, d5] }
  | _ => none }
def LawS1019BOrderWrongFalsely : Prop := lawS1019BOrderRow.holds Yba.pinned (OpenSpec.ofChange lawS1019BOrderWrong)

/-- 'stillstream.LawS1019CFactors': WHATEVER THE INPUT: true; the input reads as it did. -/
def lawS1019CFactorsSpec : ChangeSpec := { name := "lawS1019CFactors", fn := fun _ => fun
  | [d1, d2, d3, d4, d5] => { results := [.lit (.bool true)], args := [d1, d2, d3, d4, d5] }
  | _ => none }
def lawS1019CFactorsRow : OpenClaim := { program := "ybulkubs", sum := "526eb49a260b4308c80e4fef1ec77ba37919ccf58e39f315c7dd701328acfe6e", func := "example.com/stillstream/stillstream.LawS1019CFactors", spec := "lawS1019CFactors", apart := false }
def LawS1019CFactorsSaid : Prop := lawS1019CFactorsRow.holds Yba.pinned (OpenSpec.ofChange lawS1019CFactorsSpec)

/-- ITS FALSE NEIGHBOUR: 'it returns false'. Refute it at one input. -/
def lawS1019CFactorsWrong : ChangeSpec := { name := "lawS1019CFactors", fn := fun _ => fun
  | [d1, d2, d3, d4, d5] => { results := [.lit (.bool false)], args := [d1, d2, d3, d4, d5] }
  | _ => none }
def LawS1019CFactorsWrongFalsely : Prop := lawS1019CFactorsRow.holds Yba.pinned (OpenSpec.ofChange lawS1019CFactorsWrong)

end Rows
end Go.Proofs.Ybulkubs
