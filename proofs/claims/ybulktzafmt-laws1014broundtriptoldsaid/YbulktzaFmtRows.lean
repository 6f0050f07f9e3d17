/-
  NARROWER THAN 'FOR EVERY INPUT', by the rows' own cells (each row's printed sentence says how): LawS1014BRoundTrip: ifaces, laid · LawS1014BBytes: ifaces, laid · LawS1014CRoundTrip: ifaces, laid · LawS1014CRefuseOrEncodeBack: ifaces, laid.
  DERIVED. THE GIVEN ROWS OF THIS SEAT. 4 by the template 'for every input the law returns true; each argument reads behind the call as it read before'; 0 by the template 'total and deterministic' (their statements: YbulktzaFmtTotals.lean).
  GIVEN WITH THE SEED: the statements are not yours to turn. If you find one false, say at which input.
  Laid BY PROGRAM, IN A SANDBOX (cutbox-rows.mjs): the forced cells as the released guide's own fill.sh prints them over the translation 280fdd66c6e29c86… (all of the seat's roots in one cut). By AI agents, Wed Nov 11 2026. No macro, syntax, notation, axiom, sorry.
-/
import Derived.Test.YbulktzaFmtChecked
import GoSem.Claim
import GoSem.ClaimJoined
import GoSem.ClaimMapViews
import Derived.JoinedTies
import Derived.KernelRfl
namespace Go.Proofs.YbulktzaFmt
/- THE CELL 'sum', in the pinned program and in every row, IS THE sha256 OF THE DUMP (.gsa) THAT YbulktzaFmtProg.lean LOADS. Nothing in Lean hashes anything: it is a label: what it is worth is what the hold of that sum in a sandbox is worth. -/
noncomputable def Ybaf.pinned : Pinned := { name := "ybulktzafmt", sum := "280fdd66c6e29c86ce2ddd3e9087d82c909cff48af1fac5dcf870714f8a4d189", checked := Ybaf.checked }
namespace Rows
def none {H : Type} : Left H := { results := [], args := [] }

/- WHAT THE LISTED PACKAGE-LEVEL VARIABLES READ AS WHEN THE CALL BEGINS. Each datum BY PROGRAM (the guide's laid-datum.mjs) off the statement by which the dump's own 'gosem.cut.vars' lays the variable. In a bare row this is a premise. The card (YbulktzaFmtCards.lean) ties it to the program's text. -/
def laid_example_com_chronolattice_chronolattice_ErrMalformed {H : Type} : DataW H := .iface "*errors.errorString" (.ptr (.agg [.lit (.string [109, 97, 108, 102, 111, 114, 109, 101, 100, 32, 116, 105, 109, 101, 115, 116, 97, 109, 112, 32, 101, 110, 99, 111, 100, 105, 110, 103])]))
def laid_example_com_chronolattice_chronolattice_errEnds {H : Type} : DataW H := .iface "*errors.errorString" (.ptr (.agg [.lit (.string [105, 116, 32, 101, 110, 100, 115, 32, 105, 110, 115, 105, 100, 101, 32, 97, 32, 110, 117, 109, 98, 101, 114])]))
def laid_example_com_chronolattice_chronolattice_errOverflows {H : Type} : DataW H := .iface "*errors.errorString" (.ptr (.agg [.lit (.string [97, 32, 110, 117, 109, 98, 101, 114, 32, 111, 118, 101, 114, 102, 108, 111, 119, 115, 32, 54, 52, 32, 98, 105, 116, 115])]))
def laid_example_com_chronolattice_chronolattice_errNotShortest {H : Type} : DataW H := .iface "*errors.errorString" (.ptr (.agg [.lit (.string [97, 32, 110, 117, 109, 98, 101, 114, 32, 105, 115, 32, 110, 111, 116, 32, 105, 110, 32, 105, 116, 115, 32, 115, 104, 111, 114, 116, 101, 115, 116, 32, 102, 111, 114, 109])]))

/-- 'chronolattice.LawS1014BRoundTrip': WHATEVER THE INPUT: true; the input reads as it did. -/
def lawS1014BRoundTripSpec : ChangeSpec := { name := "lawS1014BRoundTrip", vars := ["example.com/chronolattice/chronolattice.ErrMalformed", "example.com/chronolattice/chronolattice.errOverflows", "example.com/chronolattice/chronolattice.errNotShortest", "example.com/chronolattice/chronolattice.errEnds"], fn := fun _ => fun
  | [d1, d2, d3, g1, g2, g3, g4] => { results := [.lit (.bool true)], args := [d1, d2, d3], vars := [g1, g2, g3, g4] }
  | _ => none }
def lawS1014BRoundTripRow : OpenClaim := { program := "ybulktzafmt", sum := "280fdd66c6e29c86ce2ddd3e9087d82c909cff48af1fac5dcf870714f8a4d189", func := "example.com/chronolattice/chronolattice.LawS1014BRoundTrip", spec := "lawS1014BRoundTrip", stops := ["fmt.errorf"], inPlace := ["fmt.errorf"], named := ["example.com/chronolattice/chronolattice.ErrMalformed", "example.com/chronolattice/chronolattice.errOverflows", "example.com/chronolattice/chronolattice.errNotShortest", "example.com/chronolattice/chronolattice.errEnds"], ifaces := true, apart := false, laid := [("example.com/chronolattice/chronolattice.ErrMalformed", laid_example_com_chronolattice_chronolattice_ErrMalformed), ("example.com/chronolattice/chronolattice.errEnds", laid_example_com_chronolattice_chronolattice_errEnds), ("example.com/chronolattice/chronolattice.errOverflows", laid_example_com_chronolattice_chronolattice_errOverflows), ("example.com/chronolattice/chronolattice.errNotShortest", laid_example_com_chronolattice_chronolattice_errNotShortest)] }
/-- NO THEOREM (fmt's text is open here; it may be false): for the released tool's asking of the row's closed facts alone. THE STATEMENT IS 'LawS1014BRoundTripToldSaid' (YbulktzaFmtCards.lean). -/
def LawS1014BRoundTripFormAsk : Prop := lawS1014BRoundTripRow.holds Ybaf.pinned (OpenSpec.ofChange lawS1014BRoundTripSpec)

/-- ITS FALSE NEIGHBOUR: 'it returns false'. Refute it at one input. -/
def lawS1014BRoundTripWrong : ChangeSpec := { name := "lawS1014BRoundTrip", vars := ["example.com/chronolattice/chronolattice.ErrMalformed", "example.com/chronolattice/chronolattice.errOverflows", "example.com/chronolattice/chronolattice.errNotShortest", "example.com/chronolattice/chronolattice.errEnds"], fn := fun _ => fun
  | [d1, d2, d3, g1, g2, g3, g4] => { results := [.lit (.bool false)], args := [d1, d2, d3], vars := [g1, g2, g3, g4] }
  | _ => none }
def LawS1014BRoundTripWrongFormAsk : Prop := lawS1014BRoundTripRow.holds Ybaf.pinned (OpenSpec.ofChange lawS1014BRoundTripWrong)

/-- 'chronolattice.LawS1014BBytes': WHATEVER THE INPUT: true; the input reads as it did. -/
def lawS1014BBytesSpec : ChangeSpec := { name := "lawS1014BBytes", vars := ["example.com/chronolattice/chronolattice.ErrMalformed", "example.com/chronolattice/chronolattice.errOverflows", "example.com/chronolattice/chronolattice.errNotShortest", "example.com/chronolattice/chronolattice.errEnds"], fn := fun _ => fun
  | [d1, d2, d3, g1, g2, g3, g4] => { results := [.lit (.bool true)], args := [d1, d2, d3], vars := [g1, g2, g3, g4] }
  | _ => none }
def lawS1014BBytesRow : OpenClaim := { program := "ybulktzafmt", sum := "280fdd66c6e29c86ce2ddd3e9087d82c909cff48af1fac5dcf870714f8a4d189", func := "example.com/chronolattice/chronolattice.LawS1014BBytes", spec := "lawS1014BBytes", stops := ["fmt.errorf"], inPlace := ["fmt.errorf", "internal/reflectlite.TypeOf"], unfollowed := true, recurses := true, named := ["example.com/chronolattice/chronolattice.ErrMalformed", "example.com/chronolattice/chronolattice.errOverflows", "example.com/chronolattice/chronolattice.errNotShortest", "example.com/chronolattice/chronolattice.errEnds"], ifaces := true, apart := false, laid := [("example.com/chronolattice/chronolattice.ErrMalformed", laid_example_com_chronolattice_chronolattice_ErrMalformed), ("example.com/chronolattice/chronolattice.errEnds", laid_example_com_chronolattice_chronolattice_errEnds), ("example.com/chronolattice/chronolattice.errOverflows", laid_example_com_chronolattice_chronolattice_errOverflows), ("example.com/chronolattice/chronolattice.errNotShortest", laid_example_com_chronolattice_chronolattice_errNotShortest)] }
/-- NO THEOREM (fmt's text is open here; it may be false): for the released tool's asking of the row's closed facts alone. THE STATEMENT IS 'LawS1014BBytesToldSaid' (YbulktzaFmtCards.lean). -/
def LawS1014BBytesFormAsk : Prop := lawS1014BBytesRow.holds Ybaf.pinned (OpenSpec.ofChange lawS1014BBytesSpec)

/-- ITS FALSE NEIGHBOUR: 'it returns false'. Refute it at one input. -/
def lawS1014BBytesWrong : ChangeSpec := { name := "lawS1014BBytes", vars := ["example.com/chronolattice/chronolattice.ErrMalformed", "example.com/chronolattice/chronolattice.errOverflows", "example.com/chronolattice/chronolattice.errNotShortest", "example.com/chronolattice/chronolattice.errEnds"], fn := fun _ => fun
  | [d1, d2, d3, g1, g2, g3, g4] => { results := [.lit (.bool false)], args := [d1, d2, d3], vars := [g1, g2, g3, g4] }
  | _ => none }
def LawS1014BBytesWrongFormAsk : Prop := lawS1014BBytesRow.holds Ybaf.pinned (OpenSpec.ofChange lawS1014BBytesWrong)

/-- 'chronolattice.LawS1014CRoundTrip': WHATEVER THE INPUT: true; the input reads as it did. -/
def lawS1014CRoundTripSpec : ChangeSpec := { name := "lawS1014CRoundTrip", vars := ["example.com/chronolattice/chronolattice.ErrMalformed", "example.com/chronolattice/chronolattice.errOverflows", "example.com/chronolattice/chronolattice.errNotShortest", "example.com/chronolattice/chronolattice.errEnds"], fn := fun _ => fun
  | [d1, d2, d3, d4, d5, d6, d7, g1, g2, g3, g4] => { results := [.lit (.bool true)], args := [d1, d2, d3, d4, d5, d6, d7], vars := [g1, g2, g3, g4] }
  | _ => none }
def lawS1014CRoundTripRow : OpenClaim := { program := "ybulktzafmt", sum := "280fdd66c6e29c86ce2ddd3e9087d82c909cff48af1fac5dcf870714f8a4d189", func := "example.com/chronolattice/chronolattice.LawS1014CRoundTrip", spec := "lawS1014CRoundTrip", stops := ["fmt.errorf"], inPlace := ["fmt.errorf", "internal/reflectlite.TypeOf"], unfollowed := true, recurses := true, named := ["example.com/chronolattice/chronolattice.ErrMalformed", "example.com/chronolattice/chronolattice.errOverflows", "example.com/chronolattice/chronolattice.errNotShortest", "example.com/chronolattice/chronolattice.errEnds"], ifaces := true, apart := false, laid := [("example.com/chronolattice/chronolattice.ErrMalformed", laid_example_com_chronolattice_chronolattice_ErrMalformed), ("example.com/chronolattice/chronolattice.errEnds", laid_example_com_chronolattice_chronolattice_errEnds), ("example.com/chronolattice/chronolattice.errOverflows", laid_example_com_chronolattice_chronolattice_errOverflows), ("example.com/chronolattice/chronolattice.errNotShortest", laid_example_com_chronolattice_chronolattice_errNotShortest)] }
/-- NO THEOREM (fmt's text is open here; it may be false): for the released tool's asking of the row's closed facts alone. THE STATEMENT IS 'LawS1014CRoundTripToldSaid' (YbulktzaFmtCards.lean). -/
def LawS1014CRoundTripFormAsk : Prop := lawS1014CRoundTripRow.holds Ybaf.pinned (OpenSpec.ofChange lawS1014CRoundTripSpec)

/-- ITS FALSE NEIGHBOUR: 'it returns false'. Refute it at one input. -/
def lawS1014CRoundTripWrong : ChangeSpec := { name := "lawS1014CRoundTrip", vars := ["example.com/chronolattice/chronolattice.ErrMalformed", "example.com/chronolattice/chronolattice.errOverflows", "example.com/chronolattice/chronolattice.errNotShortest", "example.com/chronolattice/chronolattice.errEnds"], fn := fun _ => fun
  | [d1, d2, d3, d4, d5, d6, d7, g1, g2, g3, g4] => { results := [.lit (.bool false)], args := [d1, d2, d3, d4, d5, d6, d7], vars := [g1, g2, g3, g4] }
  | _ => none }
def LawS1014CRoundTripWrongFormAsk : Prop := lawS1014CRoundTripRow.holds Ybaf.pinned (OpenSpec.ofChange lawS1014CRoundTripWrong)

/-- 'chronolattice.LawS1014CRefuseOrEncodeBack': WHATEVER THE INPUT: true; the input reads as it did. -/
def lawS1014CRefuseOrEncodeBackSpec : ChangeSpec := { name := "lawS1014CRefuseOrEncodeBack", vars := ["example.com/chronolattice/chronolattice.ErrMalformed", "example.com/chronolattice/chronolattice.errOverflows", "example.com/chronolattice/chronolattice.errNotShortest", "example.com/chronolattice/chronolattice.errEnds"], fn := fun _ => fun
  | [d1, d2, d3, d4, d5, d6, d7, g1, g2, g3, g4] => { results := [.lit (.bool true)], args := [d1, d2, d3, d4, d5, d6, d7], vars := [g1, g2, g3, g4] }
  | _ => none }
def lawS1014CRefuseOrEncodeBackRow : OpenClaim := { program := "ybulktzafmt", sum := "280fdd66c6e29c86ce2ddd3e9087d82c909cff48af1fac5dcf870714f8a4d189", func := "example.com/chronolattice/chronolattice.LawS1014CRefuseOrEncodeBack", spec := "lawS1014CRefuseOrEncodeBack", stops := ["fmt.errorf"], inPlace := ["fmt.errorf", "internal/reflectlite.TypeOf"], unfollowed := true, recurses := true, named := ["example.com/chronolattice/chronolattice.ErrMalformed", "example.com/chronolattice/chronolattice.errOverflows", "example.com/chronolattice/chronolattice.errNotShortest", "example.com/chronolattice/chronolattice.errEnds"], ifaces := true, apart := false, laid := [("example.com/chronolattice/chronolattice.ErrMalformed", laid_example_com_chronolattice_chronolattice_ErrMalformed), ("example.com/chronolattice/chronolattice.errEnds", laid_example_com_chronolattice_chronolattice_errEnds), ("example.com/chronolattice/chronolattice.errOverflows", laid_example_com_chronolattice_chronolattice_errOverflows), ("example.com/chronolattice/chronolattice.errNotShortest", laid_example_com_chronolattice_chronolattice_errNotShortest)] }
/-- NO THEOREM (fmt's text is open here; it may be false): for the released tool's asking of the row's closed facts alone. THE STATEMENT IS 'LawS1014CRefuseOrEncodeBackToldSaid' (YbulktzaFmtCards.lean). -/
def LawS1014CRefuseOrEncodeBackFormAsk : Prop := lawS1014CRefuseOrEncodeBackRow.holds Ybaf.pinned (OpenSpec.ofChange lawS1014CRefuseOrEncodeBackSpec)

/-- ITS FALSE NEIGHBOUR: 'it returns false'. Refute it at one input. -/
def lawS1014CRefuseOrEncodeBackWrong : ChangeSpec := { name := "lawS1014CRefuseOrEncodeBack", vars := ["example.com/chronolattice/chronolattice.ErrMalformed", "example.com/chronolattice/chronolattice.errOverflows", "example.com/chronolattice/chronolattice.errNotShortest", "example.com/chronolattice/chronolattice.errEnds"], fn := fun _ => fun
  | [d1, d2, d3, d4, d5, d6, d7, g1, g2, g3, g4] => { results := [.lit (.bool false)], args := [d1, d2, d3, d4, d5, d6, d7], vars := [g1, g2, g3, g4] }
  | _ => none }
def LawS1014CRefuseOrEncodeBackWrongFormAsk : Prop := lawS1014CRefuseOrEncodeBackRow.holds Ybaf.pinned (OpenSpec.ofChange lawS1014CRefuseOrEncodeBackWrong)

end Rows
end Go.Proofs.YbulktzaFmt
