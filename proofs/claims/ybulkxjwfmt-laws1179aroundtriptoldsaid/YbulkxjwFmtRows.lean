/-
  NARROWER THAN 'FOR EVERY INPUT', by the rows' own cells (each row's printed sentence says how): LawS1179AModel: ifaces, laid · LawS1179ARoundTrip: ifaces, laid.
  DERIVED. THE GIVEN ROWS OF THIS SEAT. 2 by the template 'for every input the law returns true; each argument reads behind the call as it read before'; 0 by the template 'total and deterministic' (their statements: YbulkxjwFmtTotals.lean).
  GIVEN WITH THE SEED: the statements are not yours to turn. If you find one false, say at which input.
  Laid BY PROGRAM, IN A SANDBOX (cutbox-rows.mjs): the forced cells as the released guide's own fill.sh prints them over the translation 783680b6136bb817… (all of the seat's roots in one cut). By AI agents, Wed Nov 11 2026. No macro, syntax, notation, axiom, sorry.
-/
import Derived.Test.YbulkxjwFmtChecked
import GoSem.Claim
import GoSem.ClaimJoined
import GoSem.ClaimMapViews
import Derived.JoinedTies
import Derived.KernelRfl
namespace Go.Proofs.YbulkxjwFmt
/- THE CELL 'sum', in the pinned program and in every row, IS THE sha256 OF THE DUMP (.gsa) THAT YbulkxjwFmtProg.lean LOADS. Nothing in Lean hashes anything: it is a label: what it is worth is what the hold of that sum in a sandbox is worth. -/
noncomputable def Ybaf.pinned : Pinned := { name := "ybulkxjwfmt", sum := "783680b6136bb81764be9d1aad47fb4411aa3996b60c7cd60c6b8fe7912d9dca", checked := Ybaf.checked }
namespace Rows
def none {H : Type} : Left H := { results := [], args := [] }

/- WHAT THE LISTED PACKAGE-LEVEL VARIABLES READ AS WHEN THE CALL BEGINS. Each datum BY PROGRAM (the guide's laid-datum.mjs) off the statement by which the dump's own 'gosem.cut.vars' lays the variable. In a bare row this is a premise. The card (YbulkxjwFmtCards.lean) ties it to the program's text. -/
def laid_example_com_bloomroute_bloomroute_errVarintCut {H : Type} : DataW H := .iface "*errors.errorString" (.ptr (.agg [.lit (.string [97, 32, 118, 97, 114, 105, 110, 116, 32, 99, 117, 116, 32, 115, 104, 111, 114, 116])]))
def laid_example_com_bloomroute_bloomroute_errVarintLong {H : Type} : DataW H := .iface "*errors.errorString" (.ptr (.agg [.lit (.string [97, 32, 118, 97, 114, 105, 110, 116, 32, 108, 111, 110, 103, 101, 114, 32, 116, 104, 97, 110, 32, 54, 52, 32, 98, 105, 116, 115])]))
def laid_example_com_bloomroute_bloomroute_errVarintPadded {H : Type} : DataW H := .iface "*errors.errorString" (.ptr (.agg [.lit (.string [97, 32, 118, 97, 114, 105, 110, 116, 32, 110, 111, 116, 32, 105, 110, 32, 105, 116, 115, 32, 115, 104, 111, 114, 116, 101, 115, 116, 32, 102, 111, 114, 109])]))

/-- 'bloomroute.LawS1179AModel': WHATEVER THE INPUT: true; the input reads as it did. -/
def lawS1179AModelSpec : ChangeSpec := { name := "lawS1179AModel", vars := ["example.com/bloomroute/bloomroute.errVarintCut", "example.com/bloomroute/bloomroute.errVarintLong", "example.com/bloomroute/bloomroute.errVarintPadded"], fn := fun _ => fun
  | [d1, d2, d3, d4, g1, g2, g3] => { results := [.lit (.bool true)], args := [d1, d2, d3, d4], vars := [g1, g2, g3] }
  | _ => none }
def lawS1179AModelRow : OpenClaim := { program := "ybulkxjwfmt", sum := "783680b6136bb81764be9d1aad47fb4411aa3996b60c7cd60c6b8fe7912d9dca", func := "example.com/bloomroute/bloomroute.LawS1179AModel", spec := "lawS1179AModel", stops := ["fmt.errorf"], inPlace := ["fmt.errorf"], named := ["example.com/bloomroute/bloomroute.errVarintCut", "example.com/bloomroute/bloomroute.errVarintLong", "example.com/bloomroute/bloomroute.errVarintPadded"], ifaces := true, apart := false, laid := [("example.com/bloomroute/bloomroute.errVarintCut", laid_example_com_bloomroute_bloomroute_errVarintCut), ("example.com/bloomroute/bloomroute.errVarintLong", laid_example_com_bloomroute_bloomroute_errVarintLong), ("example.com/bloomroute/bloomroute.errVarintPadded", laid_example_com_bloomroute_bloomroute_errVarintPadded)] }
/-- NO THEOREM (fmt's text is open here; it may be false): for the released tool's asking of the row's closed facts alone. THE STATEMENT IS 'LawS1179AModelToldSaid' (YbulkxjwFmtCards.lean). -/
def LawS1179AModelFormAsk : Prop := lawS1179AModelRow.holds Ybaf.pinned (OpenSpec.ofChange lawS1179AModelSpec)

/-- ITS FALSE NEIGHBOUR: 'it returns false'. Refute it at one input. -/
def lawS1179AModelWrong : ChangeSpec := { name := "lawS1179AModel", vars := ["example.com/bloomroute/bloomroute.errVarintCut", "example.com/bloomroute/bloomroute.errVarintLong", "example.com/bloomroute/bloomroute.errVarintPadded"], fn := fun _ => fun
  | [d1, d2, d3, d4, g1, g2, g3] => { results := [.lit (.bool false)], args := [d1, d2, d3, d4], vars := [g1, g2, g3] }
  | _ => none }
def LawS1179AModelWrongFormAsk : Prop := lawS1179AModelRow.holds Ybaf.pinned (OpenSpec.ofChange lawS1179AModelWrong)

/-- 'bloomroute.LawS1179ARoundTrip': WHATEVER THE INPUT: true; the input reads as it did. -/
def lawS1179ARoundTripSpec : ChangeSpec := { name := "lawS1179ARoundTrip", vars := ["example.com/bloomroute/bloomroute.errVarintCut", "example.com/bloomroute/bloomroute.errVarintLong", "example.com/bloomroute/bloomroute.errVarintPadded"], fn := fun _ => fun
  | [d1, d2, d3, g1, g2, g3] => { results := [.lit (.bool true)], args := [d1, d2, d3], vars := [g1, g2, g3] }
  | _ => none }
def lawS1179ARoundTripRow : OpenClaim := { program := "ybulkxjwfmt", sum := "783680b6136bb81764be9d1aad47fb4411aa3996b60c7cd60c6b8fe7912d9dca", func := "example.com/bloomroute/bloomroute.LawS1179ARoundTrip", spec := "lawS1179ARoundTrip", stops := ["fmt.errorf"], inPlace := ["fmt.errorf"], named := ["example.com/bloomroute/bloomroute.errVarintCut", "example.com/bloomroute/bloomroute.errVarintLong", "example.com/bloomroute/bloomroute.errVarintPadded"], ifaces := true, apart := false, laid := [("example.com/bloomroute/bloomroute.errVarintCut", laid_example_com_bloomroute_bloomroute_errVarintCut), ("example.com/bloomroute/bloomroute.errVarintLong", laid_example_com_bloomroute_bloomroute_errVarintLong), ("example.com/bloomroute/bloomroute.errVarintPadded", laid_example_com_bloomroute_bloomroute_errVarintPadded)] }
/-- NO THEOREM (fmt's text is open here; it may be false): for the released tool's asking of the row's closed facts alone. THE STATEMENT IS 'LawS1179ARoundTripToldSaid' (YbulkxjwFmtCards.lean). -/
def LawS1179ARoundTripFormAsk : Prop := lawS1179ARoundTripRow.holds Ybaf.pinned (OpenSpec.ofChange lawS1179ARoundTripSpec)

/-- ITS FALSE NEIGHBOUR: 'it returns false'. Refute it at one input. -/
def lawS1179ARoundTripWrong : ChangeSpec := { name := "lawS1179ARoundTrip", vars := ["example.com/bloomroute/bloomroute.errVarintCut", "example.com/bloomroute/bloomroute.errVarintLong", "example.com/bloomroute/bloomroute.errVarintPadded"], fn := fun _ => fun
  | [d1, d2, d3, g1, g2, g3] => { results := [.lit (.bool false)], args := [d1, d2, d3], vars := [g1, g2, g3] }
  | _ => none }
def LawS1179ARoundTripWrongFormAsk : Prop := lawS1179ARoundTripRow.holds Ybaf.pinned (OpenSpec.ofChange lawS1179ARoundTripWrong)

end Rows
end Go.Proofs.YbulkxjwFmt
