/-
  DERIVED. GIVEN WITH THE SEED: THE CARDS: each row of YbulkacamFmtRows.lean that lists a variable, with what it lists TIED to the program's text (the seventh form; the later family's looks); each row that meets fmt, with fmt's text TOLD by the authors' own Lean function (tested against real Go, not proved from fmt's source: count such statements apart). THE CARD IS WHAT COUNTS. Prove the row's statement (the work); the ties are given (YbulkacamFmtTie.lean); close each card by the builder's one call (the guide's Derived/Test/ToyasCard.lean, 'card_holds'). Laid BY PROGRAM, IN A SANDBOX (cutbox-door.mjs). By AI agents, Wed Nov 11 2026. No macro, syntax, notation, axiom, sorry.
-/
import Derived.Test.YbulkacamFmtRows
import GoSem.ClaimSeven
namespace Go.Proofs.YbulkacamFmt
namespace Rows

/-- THE TOLD CARD OF 'diameter.LawS1403BExact'. -/
def lawS1403BExactCard : Claim7 := { stood := { row := lawS1403BExactRow, standIns := [], harness := (true, "60cf2c4caeea889398f1504e070661cfbe2a1d010629674bb36bb865c4a467db"), looks := false }, told := true, goes := false }
def LawS1403BExactToldSaid : Prop := Claim7.holds Ybaf.pinned (.plain (OpenSpec.ofChange lawS1403BExactSpec)) lawS1403BExactCard
/-- ITS FALSE NEIGHBOUR. Refute it at one input. -/
def LawS1403BExactToldWrongFalsely : Prop := Claim7.holds Ybaf.pinned (.plain (OpenSpec.ofChange lawS1403BExactWrong)) lawS1403BExactCard

/-- THE TOLD CARD OF 'diameter.LawS1403BRoundTrip'. -/
def lawS1403BRoundTripCard : Claim7 := { stood := { row := lawS1403BRoundTripRow, standIns := [], harness := (true, "60cf2c4caeea889398f1504e070661cfbe2a1d010629674bb36bb865c4a467db"), looks := false }, told := true, goes := false }
def LawS1403BRoundTripToldSaid : Prop := Claim7.holds Ybaf.pinned (.plain (OpenSpec.ofChange lawS1403BRoundTripSpec)) lawS1403BRoundTripCard
/-- ITS FALSE NEIGHBOUR. Refute it at one input. -/
def LawS1403BRoundTripToldWrongFalsely : Prop := Claim7.holds Ybaf.pinned (.plain (OpenSpec.ofChange lawS1403BRoundTripWrong)) lawS1403BRoundTripCard
end Rows
end Go.Proofs.YbulkacamFmt
