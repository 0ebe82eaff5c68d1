/-
  No cell of these rows narrows 'for every input' (looked for: loops, veiled, ifaces, maps, wideKeys, modest, calm, conditions, laid).
  DERIVED. THE GIVEN ROWS OF THIS SEAT. 2 by the template 'for every input the law returns true; each argument reads behind the call as it read before'; 0 by the template 'total and deterministic' (their statements: YbulkacamFmtTotals.lean).
  GIVEN WITH THE SEED: the statements are not yours to turn. If you find one false, say at which input.
  Laid BY PROGRAM, IN A SANDBOX (cutbox-rows.mjs): the forced cells as the released guide's own fill.sh prints them over the translation 15952660a1397c9e… (all of the seat's roots in one cut). By AI agents, Wed Nov 11 2026. No macro, syntax, notation, axiom, sorry.
-/
import Derived.Test.YbulkacamFmtChecked
import GoSem.Claim
import GoSem.ClaimJoined
import GoSem.ClaimMapViews
import Derived.JoinedTies
import Derived.KernelRfl
namespace Go.Proofs.YbulkacamFmt
/- THE CELL 'sum', in the pinned program and in every row, IS THE sha256 OF THE DUMP (.gsa) THAT YbulkacamFmtProg.lean LOADS. Nothing in Lean hashes anything: it is a label: what it is worth is what the hold of that sum in a sandbox is worth. -/
noncomputable def Ybaf.pinned : Pinned := { name := "ybulkacamfmt", sum := "15952660a1397c9e3121797746a90849b294af23c79bdce98faa31f9010023a0", checked := Ybaf.checked }
namespace Rows
def none {H : Type} : Left H := { results := [], args := [] }

/-- 'diameter.LawS1403BExact': WHATEVER THE INPUT: true; the input reads as it did. -/
def lawS1403BExactSpec : ChangeSpec := { name := "lawS1403BExact", fn := fun _ => fun
  | [d1, d2, d3, d4] => { results := [.lit (.bool true)], args := [d1, d2, d3, d4] }
  | _ => none }
def lawS1403BExactRow : OpenClaim := { program := "ybulkacamfmt", sum := "15952660a1397c9e3121797746a90849b294af23c79bdce98faa31f9010023a0", func := "example.com/roamkey/roamkey/internal/diameter.LawS1403BExact", spec := "lawS1403BExact", stops := ["fmt.errorf"], inPlace := ["fmt.errorf"], named := ["encoding/binary.BigEndian"], apart := false }
/-- NO THEOREM (fmt's text is open here; it may be false): for the released tool's asking of the row's closed facts alone. THE STATEMENT IS 'LawS1403BExactToldSaid' (YbulkacamFmtCards.lean). -/
def LawS1403BExactFormAsk : Prop := lawS1403BExactRow.holds Ybaf.pinned (OpenSpec.ofChange lawS1403BExactSpec)

/-- ITS FALSE NEIGHBOUR: 'it returns false'. Refute it at one input. -/
def lawS1403BExactWrong : ChangeSpec := { name := "lawS1403BExact", fn := fun _ => fun
  | [d1, d2, d3, d4] => { results := [.lit (.bool false)], args := [d1, d2, d3, d4] }
  | _ => none }
def LawS1403BExactWrongFormAsk : Prop := lawS1403BExactRow.holds Ybaf.pinned (OpenSpec.ofChange lawS1403BExactWrong)

/-- 'diameter.LawS1403BRoundTrip': WHATEVER THE INPUT: true; the input reads as it did. -/
def lawS1403BRoundTripSpec : ChangeSpec := { name := "lawS1403BRoundTrip", fn := fun _ => fun
  | [d1, d2, d3, d4] => { results := [.lit (.bool true)], args := [d1, d2, d3, d4] }
  | _ => none }
def lawS1403BRoundTripRow : OpenClaim := { program := "ybulkacamfmt", sum := "15952660a1397c9e3121797746a90849b294af23c79bdce98faa31f9010023a0", func := "example.com/roamkey/roamkey/internal/diameter.LawS1403BRoundTrip", spec := "lawS1403BRoundTrip", stops := ["fmt.errorf"], inPlace := ["fmt.errorf"], named := ["encoding/binary.BigEndian"], apart := false }
/-- NO THEOREM (fmt's text is open here; it may be false): for the released tool's asking of the row's closed facts alone. THE STATEMENT IS 'LawS1403BRoundTripToldSaid' (YbulkacamFmtCards.lean). -/
def LawS1403BRoundTripFormAsk : Prop := lawS1403BRoundTripRow.holds Ybaf.pinned (OpenSpec.ofChange lawS1403BRoundTripSpec)

/-- ITS FALSE NEIGHBOUR: 'it returns false'. Refute it at one input. -/
def lawS1403BRoundTripWrong : ChangeSpec := { name := "lawS1403BRoundTrip", fn := fun _ => fun
  | [d1, d2, d3, d4] => { results := [.lit (.bool false)], args := [d1, d2, d3, d4] }
  | _ => none }
def LawS1403BRoundTripWrongFormAsk : Prop := lawS1403BRoundTripRow.holds Ybaf.pinned (OpenSpec.ofChange lawS1403BRoundTripWrong)

end Rows
end Go.Proofs.YbulkacamFmt
