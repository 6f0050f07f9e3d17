/-
  DERIVED. GIVEN WITH THE SEED: THE CARDS: each row of YbulktzaFmtRows.lean that lists a variable, with what it lists TIED to the program's text (the seventh form; the later family's looks); each row that meets fmt, with fmt's text TOLD by the authors' own Lean function (tested against real Go, not proved from fmt's source: count such statements apart). THE CARD IS WHAT COUNTS. Prove the row's statement (the work); the ties are given (YbulktzaFmtTie.lean); close each card by the builder's one call (the guide's Derived/Test/ToyasCard.lean, 'card_holds'). Laid BY PROGRAM, IN A SANDBOX (cutbox-door.mjs). By AI agents, Wed Nov 11 2026. No macro, syntax, notation, axiom, sorry.
-/
import Derived.Test.YbulktzaFmtRows
import GoSem.ClaimSeven
namespace Go.Proofs.YbulktzaFmt
namespace Rows

/-- THE TOLD AND TIED CARD OF 'chronolattice.LawS1014BRoundTrip'. -/
def lawS1014BRoundTripCard : Claim7 := { stood := { row := lawS1014BRoundTripRow, standIns := [], harness := (true, "1169cb42bfbf65bd721af5f3889d5b031d0674d3ffd01f2fee25ffeb247bb7f9"), looks := true }, told := true, laidByText := true, laidKinds := [.sentinel, .sentinel, .sentinel, .sentinel], laidTests := true, laidLooks := .later, goes := false }
def LawS1014BRoundTripToldSaid : Prop := Claim7.holds Ybaf.pinned (.plain (OpenSpec.ofChange lawS1014BRoundTripSpec)) lawS1014BRoundTripCard
/-- ITS FALSE NEIGHBOUR. Refute it at one input. -/
def LawS1014BRoundTripToldWrongFalsely : Prop := Claim7.holds Ybaf.pinned (.plain (OpenSpec.ofChange lawS1014BRoundTripWrong)) lawS1014BRoundTripCard

/-- THE TOLD AND TIED CARD OF 'chronolattice.LawS1014BBytes'. -/
def lawS1014BBytesCard : Claim7 := { stood := { row := lawS1014BBytesRow, standIns := [], harness := (true, "1169cb42bfbf65bd721af5f3889d5b031d0674d3ffd01f2fee25ffeb247bb7f9"), looks := true }, told := true, laidByText := true, laidKinds := [.sentinel, .sentinel, .sentinel, .sentinel], laidTests := true, laidLooks := .later, goes := false }
def LawS1014BBytesToldSaid : Prop := Claim7.holds Ybaf.pinned (.plain (OpenSpec.ofChange lawS1014BBytesSpec)) lawS1014BBytesCard
/-- ITS FALSE NEIGHBOUR. Refute it at one input. -/
def LawS1014BBytesToldWrongFalsely : Prop := Claim7.holds Ybaf.pinned (.plain (OpenSpec.ofChange lawS1014BBytesWrong)) lawS1014BBytesCard

/-- THE TOLD AND TIED CARD OF 'chronolattice.LawS1014CRoundTrip'. -/
def lawS1014CRoundTripCard : Claim7 := { stood := { row := lawS1014CRoundTripRow, standIns := [], harness := (true, "1169cb42bfbf65bd721af5f3889d5b031d0674d3ffd01f2fee25ffeb247bb7f9"), looks := true }, told := true, laidByText := true, laidKinds := [.sentinel, .sentinel, .sentinel, .sentinel], laidTests := true, laidLooks := .later, goes := false }
def LawS1014CRoundTripToldSaid : Prop := Claim7.holds Ybaf.pinned (.plain (OpenSpec.ofChange lawS1014CRoundTripSpec)) lawS1014CRoundTripCard
/-- ITS FALSE NEIGHBOUR. Refute it at one input. -/
def LawS1014CRoundTripToldWrongFalsely : Prop := Claim7.holds Ybaf.pinned (.plain (OpenSpec.ofChange lawS1014CRoundTripWrong)) lawS1014CRoundTripCard

/-- THE TOLD AND TIED CARD OF 'chronolattice.LawS1014CRefuseOrEncodeBack'. -/
def lawS1014CRefuseOrEncodeBackCard : Claim7 := { stood := { row := lawS1014CRefuseOrEncodeBackRow, standIns := [], harness := (true, "1169cb42bfbf65bd721af5f3889d5b031d0674d3ffd01f2fee25ffeb247bb7f9"), looks := true }, told := true, laidByText := true, laidKinds := [.sentinel, .sentinel, .sentinel, .sentinel], laidTests := true, laidLooks := .later, goes := false }
def LawS1014CRefuseOrEncodeBackToldSaid : Prop := Claim7.holds Ybaf.pinned (.plain (OpenSpec.ofChange lawS1014CRefuseOrEncodeBackSpec)) lawS1014CRefuseOrEncodeBackCard
/-- ITS FALSE NEIGHBOUR. Refute it at one input. -/
def LawS1014CRefuseOrEncodeBackToldWrongFalsely : Prop := Claim7.holds Ybaf.pinned (.plain (OpenSpec.ofChange lawS1014CRefuseOrEncodeBackWrong)) lawS1014CRefuseOrEncodeBackCard
end Rows
end Go.Proofs.YbulktzaFmt
