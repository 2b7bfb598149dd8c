/-
  DERIVED. GIVEN WITH THE SEED: THE CARDS: each row of YbulkxjwFmtRows.lean that lists a variable, with what it lists TIED to the program's text (the seventh form; the later family's looks); each row that meets fmt, with fmt's text TOLD by the authors' own Lean function (tested against real Go, not proved from fmt's source: count such statements apart). THE CARD IS WHAT COUNTS. Prove the row's statement (the work); the ties are given (YbulkxjwFmtTie.lean); close each card by the builder's one call (the guide's Derived/Test/ToyasCard.lean, 'card_holds'). Laid BY PROGRAM, IN A SANDBOX (cutbox-door.mjs). By AI agents, Wed Nov 11 2026. No macro, syntax, notation, axiom, sorry.
-/
import Derived.Test.YbulkxjwFmtRows
import GoSem.ClaimSeven
namespace Go.Proofs.YbulkxjwFmt
namespace Rows

/-- THE TOLD AND TIED CARD OF 'bloomroute.LawS1179AModel'. -/
def lawS1179AModelCard : Claim7 := { stood := { row := lawS1179AModelRow, standIns := [], harness := (true, "8eec9c703b7dea5067560376b350f8f8a9bf6298bedf6ab632f443deb8585ff7"), looks := true }, told := true, laidByText := true, laidKinds := [.sentinel, .sentinel, .sentinel], laidTests := true, laidLooks := .later, goes := false }
def LawS1179AModelToldSaid : Prop := Claim7.holds Ybaf.pinned (.plain (OpenSpec.ofChange lawS1179AModelSpec)) lawS1179AModelCard
/-- ITS FALSE NEIGHBOUR. Refute it at one input. -/
def LawS1179AModelToldWrongFalsely : Prop := Claim7.holds Ybaf.pinned (.plain (OpenSpec.ofChange lawS1179AModelWrong)) lawS1179AModelCard

/-- THE TOLD AND TIED CARD OF 'bloomroute.LawS1179ARoundTrip'. -/
def lawS1179ARoundTripCard : Claim7 := { stood := { row := lawS1179ARoundTripRow, standIns := [], harness := (true, "8eec9c703b7dea5067560376b350f8f8a9bf6298bedf6ab632f443deb8585ff7"), looks := true }, told := true, laidByText := true, laidKinds := [.sentinel, .sentinel, .sentinel], laidTests := true, laidLooks := .later, goes := false }
def LawS1179ARoundTripToldSaid : Prop := Claim7.holds Ybaf.pinned (.plain (OpenSpec.ofChange lawS1179ARoundTripSpec)) lawS1179ARoundTripCard
/-- ITS FALSE NEIGHBOUR. Refute it at one input. -/
def LawS1179ARoundTripToldWrongFalsely : Prop := Claim7.holds Ybaf.pinned (.plain (OpenSpec.ofChange lawS1179ARoundTripWrong)) lawS1179ARoundTripCard
end Rows
end Go.Proofs.YbulkxjwFmt
