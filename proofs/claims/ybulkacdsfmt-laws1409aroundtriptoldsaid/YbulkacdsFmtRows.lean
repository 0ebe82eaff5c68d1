/-
  NARROWER THAN 'FOR EVERY INPUT', by the rows' own cells (each row's printed sentence says how): LawS1409ARoundTrip: ifaces, laid.
  DERIVED. THE GIVEN ROWS OF THIS SEAT. 3 by the template 'for every input the law returns true; each argument reads behind the call as it read before'; 0 by the template 'total and deterministic' (their statements: YbulkacdsFmtTotals.lean).
  GIVEN WITH THE SEED: the statements are not yours to turn. If you find one false, say at which input.
  Laid BY PROGRAM, IN A SANDBOX (cutbox-rows.mjs): the forced cells as the released guide's own fill.sh prints them over the translation 80f33b2ba55e31df… (all of the seat's roots in one cut). By AI agents, Wed Nov 11 2026. No macro, syntax, notation, axiom, sorry.
-/
import Derived.Test.YbulkacdsFmtChecked
import GoSem.Claim
import GoSem.ClaimJoined
import GoSem.ClaimMapViews
import Derived.JoinedTies
import Derived.KernelRfl
namespace Go.Proofs.YbulkacdsFmt
/- THE CELL 'sum', in the pinned program and in every row, IS THE sha256 OF THE DUMP (.gsa) THAT YbulkacdsFmtProg.lean LOADS. Nothing in Lean hashes anything: it is a label: what it is worth is what the hold of that sum in a sandbox is worth. -/
noncomputable def Ybaf.pinned : Pinned := { name := "ybulkacdsfmt", sum := "80f33b2ba55e31df9423b3554610b445422f8f92486531cab008aec66e950498", checked := Ybaf.checked }
namespace Rows
def none {H : Type} : Left H := { results := [], args := [] }

/- WHAT THE LISTED PACKAGE-LEVEL VARIABLES READ AS WHEN THE CALL BEGINS. Each datum BY PROGRAM (the guide's laid-datum.mjs) off the statement by which the dump's own 'gosem.cut.vars' lays the variable. In a bare row this is a premise. The card (YbulkacdsFmtCards.lean) ties it to the program's text. -/
def laid_example_com_backroute_backroute_wire_errShort {H : Type} : DataW H := .iface "*errors.errorString" (.ptr (.agg [.lit (.string [97, 32, 108, 101, 110, 103, 116, 104, 32, 114, 117, 110, 115, 32, 112, 97, 115, 116, 32, 116, 104, 101, 32, 101, 110, 100, 32, 111, 102, 32, 116, 104, 101, 32, 100, 97, 116, 97])]))

/-- 'wire.LawS1409AEncodes': WHATEVER THE INPUT: true; the input reads as it did. -/
def lawS1409AEncodesSpec : ChangeSpec := { name := "lawS1409AEncodes", fn := fun _ => fun
  | [d1, d2, d3, d4, d5, d6, d7, d8] => { results := [.lit (.bool true)], args := [d1, d2, d3, d4, d5, d6, d7, d8] }
  | _ => none }
def lawS1409AEncodesRow : OpenClaim := { program := "ybulkacdsfmt", sum := "80f33b2ba55e31df9423b3554610b445422f8f92486531cab008aec66e950498", func := "example.com/backroute/backroute/wire.LawS1409AEncodes", spec := "lawS1409AEncodes", stops := ["fmt.errorf"], inPlace := ["fmt.errorf"], unfollowed := true, recurses := true, apart := false }
/-- NO THEOREM (fmt's text is open here; it may be false): for the released tool's asking of the row's closed facts alone. THE STATEMENT IS 'LawS1409AEncodesToldSaid' (YbulkacdsFmtCards.lean). -/
def LawS1409AEncodesFormAsk : Prop := lawS1409AEncodesRow.holds Ybaf.pinned (OpenSpec.ofChange lawS1409AEncodesSpec)

/-- ITS FALSE NEIGHBOUR: 'it returns false'. Refute it at one input. -/
def lawS1409AEncodesWrong : ChangeSpec := { name := "lawS1409AEncodes", fn := fun _ => fun
  | [d1, d2, d3, d4, d5, d6, d7, d8] => { results := [.lit (.bool false)], args := [d1, d2, d3, d4, d5, d6, d7, d8] }
  | _ => none }
def LawS1409AEncodesWrongFormAsk : Prop := lawS1409AEncodesRow.holds Ybaf.pinned (OpenSpec.ofChange lawS1409AEncodesWrong)

/-- 'wire.LawS1409ARoundTrip': WHATEVER THE INPUT: true; the input reads as it did. -/
def lawS1409ARoundTripSpec : ChangeSpec := { name := "lawS1409ARoundTrip", vars := ["example.com/backroute/backroute/wire.errShort"], fn := fun _ => fun
  | [d1, d2, d3, d4, d5, d6, d7, g1] => { results := [.lit (.bool true)], args := [d1, d2, d3, d4, d5, d6, d7], vars := [g1] }
  | _ => none }
def lawS1409ARoundTripRow : OpenClaim := { program := "ybulkacdsfmt", sum := "80f33b2ba55e31df9423b3554610b445422f8f92486531cab008aec66e950498", func := "example.com/backroute/backroute/wire.LawS1409ARoundTrip", spec := "lawS1409ARoundTrip", stops := ["fmt.errorf"], inPlace := ["fmt.errorf"], unfollowed := true, recurses := true, named := ["example.com/backroute/backroute/wire.errShort"], ifaces := true, apart := false, laid := [("example.com/backroute/backroute/wire.errShort", laid_example_com_backroute_backroute_wire_errShort)] }
/-- NO THEOREM (fmt's text is open here; it may be false): for the released tool's asking of the row's closed facts alone. THE STATEMENT IS 'LawS1409ARoundTripToldSaid' (YbulkacdsFmtCards.lean). -/
def LawS1409ARoundTripFormAsk : Prop := lawS1409ARoundTripRow.holds Ybaf.pinned (OpenSpec.ofChange lawS1409ARoundTripSpec)

/-- ITS FALSE NEIGHBOUR: 'it returns false'. Refute it at one input. -/
def lawS1409ARoundTripWrong : ChangeSpec := { name := "lawS1409ARoundTrip", vars := ["example.com/backroute/backroute/wire.errShort"], fn := fun _ => fun
  | [d1, d2, d3, d4, d5, d6, d7, g1] => { results := [.lit (.bool false)], args := [d1, d2, d3, d4, d5, d6, d7], vars := [g1] }
  | _ => none }
def LawS1409ARoundTripWrongFormAsk : Prop := lawS1409ARoundTripRow.holds Ybaf.pinned (OpenSpec.ofChange lawS1409ARoundTripWrong)

/-- 'wire.LawS1409BFrame': WHATEVER THE INPUT: true; the input reads as it did. -/
def lawS1409BFrameSpec : ChangeSpec := { name := "lawS1409BFrame", fn := fun _ => fun
  | [d1, d2, d3, d4, d5] => { results := [.lit (.bool true)], args := [d1, d2, d3, d4, d5] }
  | _ => none }
def lawS1409BFrameRow : OpenClaim := { program := "ybulkacdsfmt", sum := "80f33b2ba55e31df9423b3554610b445422f8f92486531cab008aec66e950498", func := "example.com/backroute/backroute/wire.LawS1409BFrame", spec := "lawS1409BFrame", stops := ["fmt.errorf"], inPlace := ["fmt.errorf"], unfollowed := true, recurses := true, apart := false }
/-- NO THEOREM (fmt's text is open here; it may be false): for the released tool's asking of the row's closed facts alone. THE STATEMENT IS 'LawS1409BFrameToldSaid' (YbulkacdsFmtCards.lean). -/
def LawS1409BFrameFormAsk : Prop := lawS1409BFrameRow.holds Ybaf.pinned (OpenSpec.ofChange lawS1409BFrameSpec)

/-- ITS FALSE NEIGHBOUR: 'it returns false'. Refute it at one input. -/
def lawS1409BFrameWrong : ChangeSpec := { name := "lawS1409BFrame", fn := fun _ => fun
  | [d1, d2, d3, d4, d5] => { results := [.lit (.bool false)], args := [d1, d2, d3, d4, d5] }
  | _ => none }
def LawS1409BFrameWrongFormAsk : Prop := lawS1409BFrameRow.holds Ybaf.pinned (OpenSpec.ofChange lawS1409BFrameWrong)

end Rows
end Go.Proofs.YbulkacdsFmt
