/-
  No cell of these rows narrows 'for every input' (looked for: loops, veiled, ifaces, maps, wideKeys, modest, calm, conditions, laid).
  DERIVED. THE GIVEN ROWS OF THIS SEAT. 3 by the template 'for every input the law returns true; each argument reads behind the call as it read before'; 0 by the template 'total and deterministic' (their statements: YbulkuaqTotals.lean).
  GIVEN WITH THE SEED: the statements are not yours to turn. If you find one false, say at which input.
  Laid BY PROGRAM, IN A SANDBOX (cutbox-rows.mjs): the forced cells as the released guide's own fill.sh prints them over the translation 4d03ff785b4dcfc1… (all of the seat's roots in one cut). By AI agents, Wed Nov 11 2026. No macro, syntax, notation, axiom, sorry.
-/
import Derived.Test.YbulkuaqChecked
import GoSem.Claim
import GoSem.ClaimJoined
import GoSem.ClaimMapViews
import Derived.JoinedTies
import Derived.KernelRfl
namespace Go.Proofs.Ybulkuaq
/- THE CELL 'sum', in the pinned program and in every row, IS THE sha256 OF THE DUMP (.gsa) THAT YbulkuaqProg.lean LOADS. Nothing in Lean hashes anything: it is a label: what it is worth is what the hold of that sum in a sandbox is worth. -/
noncomputable def Yba.pinned : Pinned := { name := "ybulkuaq", sum := "4d03ff785b4dcfc189eb7180a28c236a4e37c39489e5a8d4a361da2835b2966b", checked := Yba.checked }
namespace Rows
def none {H : Type} : Left H := { results := [], args := [] }

/-- 'wayt.LawS1017AExact': WHATEVER THE INPUT: true; the input reads as it did. -/
def lawS1017AExactSpec : ChangeSpec := { name := "lawS1017AExact", fn := fun _ => fun
  | [d1, d2, d3, d4, d5, d6, d7, d8, d9] => { results := [.lit (.bool true)], args := [d1, d2, d3, d4, d5, d6, d7, d8, d9] }
  | _ => none }
def lawS1017AExactRow : OpenClaim := { program := "ybulkuaq", sum := "4d03ff785b4dcfc189eb7180a28c236a4e37c39489e5a8d4a361da2835b2966b", func := "example.com/wayt/wayt.LawS1017AExact", spec := "lawS1017AExact", apart := false }
def LawS1017AExactSaid : Prop := lawS1017AExactRow.holds Yba.pinned (OpenSpec.ofChange lawS1017AExactSpec)

/-- ITS FALSE NEIGHBOUR: 'it returns false'. Refute it at one input. -/
def lawS1017AExactWrong : ChangeSpec := { name := "lawS1017AExact", fn := fun _ => fun
  | [d1, d2, d3, d4, d5, d6, d7, d8, d9] => { results := [.lit (.bool false)], args := [d1, d2, d3, d4, d5, d6, d7, d8, d9] }
  | _ => none }
def LawS1017AExactWrongFalsely : Prop := lawS1017AExactRow.holds Yba.pinned (OpenSpec.ofChange lawS1017AExactWrong)

/-- 'wayt.LawS1017AMonotone': WHATEVER THE INPUT: true; the input reads as it did. -/
def lawS1017AMonotoneSpec : ChangeSpec := { name := "lawS1017AMonotone", fn := fun _ => fun
  | [d1, d2, d3, d4] => { results := [.lit (.bool true)], args := [d1, d2, d3, d4] }
  | _ => none }
def lawS1017AMonotoneRow : OpenClaim := { program := "ybulkuaq", sum := "4d03ff785b4dcfc189eb7180a28c236a4e37c39489e5a8d4a361da2835b2966b", func := "example.com/wayt/wayt.LawS1017AMonotone", spec := "lawS1017AMonotone", apart := false }
def LawS1017AMonotoneSaid : Prop := lawS1017AMonotoneRow.holds Yba.pinned (OpenSpec.ofChange lawS1017AMonotoneSpec)

/-- ITS FALSE NEIGHBOUR: 'it returns false'. Refute it at one input. -/
def lawS1017AMonotoneWrong : ChangeSpec := { name := "lawS1017AMonotone", fn := fun _ => fun
  | [d1, d2, d3, d4] => { results := [.lit (.bool false)], args := [d1, d2, d3, d4] }
  | _ => none }
def LawS1017AMonotoneWrongFalsely : Prop := lawS1017AMonotoneRow.holds Yba.pinned (OpenSpec.ofChange lawS1017AMonotoneWrong)

/-- 'wayt.LawS1017BStable': WHATEVER THE INPUT: true; the input reads as it did. -/
def lawS1017BStableSpec : ChangeSpec := { name := "lawS1017BStable", fn := fun _ => fun
  | [d1, d2] => { results := [.lit (.bool true)], args := [d1, d2] }
  | _ => none }
def lawS1017BStableRow : OpenClaim := { program := "ybulkuaq", sum := "4d03ff785b4dcfc189eb7180a28c236a4e37c39489e5a8d4a361da2835b2966b", func := "example.com/wayt/wayt.LawS1017BStable", spec := "lawS1017BStable", inPlace := ["sync/atomic.StoreUint32", "sync/atomic.LoadUint32"], apart := false }
def LawS1017BStableSaid : Prop := lawS1017BStableRow.holds Yba.pinned (OpenSpec.ofChange lawS1017BStableSpec)

/-- ITS FALSE NEIGHBOUR: 'it returns false'. Refute it at one input. -/
def lawS1017BStableWrong : ChangeSpec := { name := "lawS1017BStable", fn := fun _ => fun
  | [d1, d2] => { results := [.lit (.bool false)], args := [d1, d2] }
  | _ => none }
def LawS1017BStableWrongFalsely : Prop := lawS1017BStableRow.holds Yba.pinned (OpenSpec.ofChange lawS1017BStableWrong)

end Rows
end Go.Proofs.Ybulkuaq
