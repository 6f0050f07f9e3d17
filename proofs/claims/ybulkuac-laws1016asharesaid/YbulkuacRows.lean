/-
  No cell of these rows narrows 'for every input' (looked for: loops, veiled, ifaces, maps, wideKeys, modest, calm, conditions, laid).
  DERIVED. THE GIVEN ROWS OF THIS SEAT. 4 by the template 'for every input the law returns true; each argument reads behind the call as it read before'; 0 by the template 'total and deterministic' (their statements: YbulkuacTotals.lean).
  GIVEN WITH THE SEED: the statements are not yours to turn. If you find one false, say at which input.
  Laid BY PROGRAM, IN A SANDBOX (cutbox-rows.mjs): the forced cells as the released guide's own fill.sh prints them over the translation 34b3629e3a5b641d… (all of the seat's roots in one cut). By AI agents, Wed Nov 11 2026. No macro, syntax, notation, axiom, sorry.
-/
import Derived.Test.YbulkuacChecked
import GoSem.Claim
import GoSem.ClaimJoined
import GoSem.ClaimMapViews
import Derived.JoinedTies
import Derived.KernelRfl
namespace Go.Proofs.Ybulkuac
/- THE CELL 'sum', in the pinned program and in every row, IS THE sha256 OF THE DUMP (.gsa) THAT YbulkuacProg.lean LOADS. Nothing in Lean hashes anything: it is a label: what it is worth is what the hold of that sum in a sandbox is worth. -/
noncomputable def Yba.pinned : Pinned := { name := "ybulkuac", sum := "34b3629e3a5b641d8f6e5b8a5c8770eeafb67133ecaaa27538dfce1a0ae10806", checked := Yba.checked }
namespace Rows
def none {H : Type} : Left H := { results := [], args := [] }

/-- 'learner.LawS1016AKeeps': WHATEVER THE INPUT: true; the input reads as it did. -/
def lawS1016AKeepsSpec : ChangeSpec := { name := "lawS1016AKeeps", fn := fun _ => fun
  | [d1, d2, d3, d4, d5] => { results := [.lit (.bool true)], args := [d1, d2, d3, d4, d5] }
  | _ => none }
def lawS1016AKeepsRow : OpenClaim := { program := "ybulkuac", sum := "34b3629e3a5b641d8f6e5b8a5c8770eeafb67133ecaaa27538dfce1a0ae10806", func := "example.com/lodestar-relay/lodestar-relay/internal/learner.LawS1016AKeeps", spec := "lawS1016AKeeps", inPlace := ["math.archLog", "math.Float64bits", "math.Float64frombits", "math.archMax"], unfollowed := true, recurses := true, apart := false }
def LawS1016AKeepsSaid : Prop := lawS1016AKeepsRow.holds Yba.pinned (OpenSpec.ofChange lawS1016AKeepsSpec)

/-- ITS FALSE NEIGHBOUR: 'it returns false'. Refute it at one input. -/
def lawS1016AKeepsWrong : ChangeSpec := { name := "lawS1016AKeeps", fn := fun _ => fun
  | [d1, d2, d3, d4, d5] => { results := [.lit (.bool false)], args := [d1, d2, d3, d4, d5] }
  | _ => none }
def LawS1016AKeepsWrongFalsely : Prop := lawS1016AKeepsRow.holds Yba.pinned (OpenSpec.ofChange lawS1016AKeepsWrong)

/-- 'learner.LawS1016AShare': WHATEVER THE INPUT: true; the input reads as it did. -/
def lawS1016AShareSpec : ChangeSpec := { name := "lawS1016AShare", fn := fun _ => fun
  | [d1, d2, d3, d4, d5] => { results := [.lit (.bool true)], args := [d1, d2, d3, d4, d5] }
  | _ => none }
def lawS1016AShareRow : OpenClaim := { program := "ybulkuac", sum := "34b3629e3a5b641d8f6e5b8a5c8770eeafb67133ecaaa27538dfce1a0ae10806", func := "example.com/lodestar-relay/lodestar-relay/internal/learner.LawS1016AShare", spec := "lawS1016AShare", inPlace := ["math.archLog", "math.Float64bits", "math.Float64frombits", "math.archMax", "math.archMin"], unfollowed := true, recurses := true, apart := false }
def LawS1016AShareSaid : Prop := lawS1016AShareRow.holds Yba.pinned (OpenSpec.ofChange lawS1016AShareSpec)

/-- ITS FALSE NEIGHBOUR: 'it returns false'. Refute it at one input. -/
def lawS1016AShareWrong : ChangeSpec := { name := "lawS1016AShare", fn := fun _ => fun
  | [d1, d2, d3, d4, d5] => { results := [.lit (.bool false)], args := [d1, d2, d3, d4, d5] }
  | _ => none }
def LawS1016AShareWrongFalsely : Prop := lawS1016AShareRow.holds Yba.pinned (OpenSpec.ofChange lawS1016AShareWrong)

/-- 'learner.LawS1016CIntegers': WHATEVER THE INPUT: true; the input reads as it did. -/
def lawS1016CIntegersSpec : ChangeSpec := { name := "lawS1016CIntegers", fn := fun _ => fun
  | [d] => { results := [.lit (.bool true)], args := [d] }
  | _ => none }
def lawS1016CIntegersRow : OpenClaim := { program := "ybulkuac", sum := "34b3629e3a5b641d8f6e5b8a5c8770eeafb67133ecaaa27538dfce1a0ae10806", func := "example.com/lodestar-relay/lodestar-relay/internal/learner.LawS1016CIntegers", spec := "lawS1016CIntegers", apart := false }
def LawS1016CIntegersSaid : Prop := lawS1016CIntegersRow.holds Yba.pinned (OpenSpec.ofChange lawS1016CIntegersSpec)

/-- ITS FALSE NEIGHBOUR: 'it returns false'. Refute it at one input. -/
def lawS1016CIntegersWrong : ChangeSpec := { name := "lawS1016CIntegers", fn := fun _ => fun
  | [d] => { results := [.lit (.bool false)], args := [d] }
  | _ => none }
def LawS1016CIntegersWrongFalsely : Prop := lawS1016CIntegersRow.holds Yba.pinned (OpenSpec.ofChange lawS1016CIntegersWrong)

/-- 'learner.LawS1016CPrefix': WHATEVER THE INPUT: true; the input reads as it did. -/
def lawS1016CPrefixSpec : ChangeSpec := { name := "lawS1016CPrefix", fn := fun _ => fun
  | [d] => { results := [.lit (.bool true)], args := [d] }
  | _ => none }
def lawS1016CPrefixRow : OpenClaim := { program := "ybulkuac", sum := "34b3629e3a5b641d8f6e5b8a5c8770eeafb67133ecaaa27538dfce1a0ae10806", func := "example.com/lodestar-relay/lodestar-relay/internal/learner.LawS1016CPrefix", spec := "lawS1016CPrefix", apart := false }
def LawS1016CPrefixSaid : Prop := lawS1016CPrefixRow.holds Yba.pinned (OpenSpec.ofChange lawS1016CPrefixSpec)

/-- ITS FALSE NEIGHBOUR: 'it returns false'. Refute it at one input. -/
def lawS1016CPrefixWrong : ChangeSpec := { name := "lawS1016CPrefix", fn := fun _ => fun
  | [d] => { results := [.lit (.bool false)], args := [d] }
  | _ => none }
def LawS1016CPrefixWrongFalsely : Prop := lawS1016CPrefixRow.holds Yba.pinned (OpenSpec.ofChange lawS1016CPrefixWrong)

end Rows
end Go.Proofs.Ybulkuac
