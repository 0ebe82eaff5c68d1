/-
  DERIVED. GIVEN WITH THE SEED: THE CARDS: each row of YbulkacdsFmtRows.lean that lists a variable, with what it lists TIED to the program's text (the seventh form; the later family's looks); each row that meets fmt, with fmt's text TOLD by the authors' own Lean function (tested against real Go, not proved from fmt's source: count such statements apart). THE CARD IS WHAT COUNTS. Prove the row's statement (the work); the ties are given (YbulkacdsFmtTie.lean); close each card by the builder's one call (the guide's Derived/Test/ToyasCard.lean, 'card_holds'). Laid BY PROGRAM, IN A SANDBOX (cutbox-door.mjs). By AI agents, Wed Nov 11 2026. No macro, syntax, notation, axiom, sorry.
-/
import Derived.Test.YbulkacdsFmtRows
import GoSem.ClaimSeven
namespace Go.Proofs.YbulkacdsFmt
namespace Rows

/-- THE TOLD CARD OF 'wire.LawS1409AEncodes'. -/
def lawS1409AEncodesCard : Claim7 := { stood := { row := lawS1409AEncodesRow, standIns := [], harness := (true, "54aff5f2a67f767e8dc3d02664d15e8e0877143b2cd3b63a1cf1b6bb44755c6c"), looks := true }, told := true, goes := false }
def LawS1409AEncodesToldSaid : Prop := Claim7.holds Ybaf.pinned (.plain (OpenSpec.ofChange lawS1409AEncodesSpec)) lawS1409AEncodesCard
/-- ITS FALSE NEIGHBOUR. Refute it at one input. -/
def LawS1409AEncodesToldWrongFalsely : Prop := Claim7.holds Ybaf.pinned (.plain (OpenSpec.ofChange lawS1409AEncodesWrong)) lawS1409AEncodesCard

/-- THE TOLD AND TIED CARD OF 'wire.LawS1409ARoundTrip'. -/
def lawS1409ARoundTripCard : Claim7 := { stood := { row := lawS1409ARoundTripRow, standIns := [], harness := (true, "54aff5f2a67f767e8dc3d02664d15e8e0877143b2cd3b63a1cf1b6bb44755c6c"), looks := true }, told := true, laidByText := true, laidKinds := [.sentinel], laidTests := true, laidLooks := .later, goes := false }
def LawS1409ARoundTripToldSaid : Prop := Claim7.holds Ybaf.pinned (.plain (OpenSpec.ofChange lawS1409ARoundTripSpec)) lawS1409ARoundTripCard
/-- ITS FALSE NEIGHBOUR. Refute it at one input. -/
def LawS1409ARoundTripToldWrongFalsely : Prop := Claim7.holds Ybaf.pinned (.plain (OpenSpec.ofChange lawS1409ARoundTripWrong)) lawS1409ARoundTripCard

/-- THE TOLD CARD OF 'wire.LawS1409BFrame'. -/
def lawS1409BFrameCard : Claim7 := { stood := { row := lawS1409BFrameRow, standIns := [], harness := (true, "54aff5f2a67f767e8dc3d02664d15e8e0877143b2cd3b63a1cf1b6bb44755c6c"), looks := true }, told := true, goes := false }
def LawS1409BFrameToldSaid : Prop := Claim7.holds Ybaf.pinned (.plain (OpenSpec.ofChange lawS1409BFrameSpec)) lawS1409BFrameCard
/-- ITS FALSE NEIGHBOUR. Refute it at one input. -/
def LawS1409BFrameToldWrongFalsely : Prop := Claim7.holds Ybaf.pinned (.plain (OpenSpec.ofChange lawS1409BFrameWrong)) lawS1409BFrameCard
end Rows
end Go.Proofs.YbulkacdsFmt
