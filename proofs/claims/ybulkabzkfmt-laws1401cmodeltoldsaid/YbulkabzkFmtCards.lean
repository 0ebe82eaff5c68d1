/-
  DERIVED. GIVEN WITH THE SEED: THE CARDS: each row of YbulkabzkFmtRows.lean that lists a variable, with what it lists TIED to the program's text (the seventh form; the later family's looks); each row that meets fmt, with fmt's text TOLD by the authors' own Lean function (tested against real Go, not proved from fmt's source: count such statements apart). THE CARD IS WHAT COUNTS. Prove the row's statement (the work); the ties are given (YbulkabzkFmtTie.lean); close each card by the builder's one call (the guide's Derived/Test/ToyasCard.lean, 'card_holds'). Laid BY PROGRAM, IN A SANDBOX (cutbox-door.mjs). By AI agents, Wed Nov 11 2026. No macro, syntax, notation, axiom, sorry.
-/
import Derived.Test.YbulkabzkFmtRows
import GoSem.ClaimSeven
namespace Go.Proofs.YbulkabzkFmt
namespace Rows

/-- THE TOLD AND TIED CARD OF 'deals.LawS1401BDeals'. -/
def lawS1401BDealsCard : Claim7 := { stood := { row := lawS1401BDealsRow, standIns := [], harness := (true, "4289854c7381c3a84a8fa57a4fb2be3d47f9176de8b566f9825344745b27126b"), looks := true }, told := true, laidByText := true, laidKinds := [.data, .sentinel, .sentinel, .listed, .data, .sentinel, .sentinel, .sentinel, .sentinel, .sentinel, .pinned], laidTests := true, laidLooks := .later, goes := false }
def LawS1401BDealsToldSaid : Prop := Claim7.holds Ybaf.pinned (.plain (OpenSpec.ofChange lawS1401BDealsSpec)) lawS1401BDealsCard
/-- ITS FALSE NEIGHBOUR. Refute it at one input. -/
def LawS1401BDealsToldWrongFalsely : Prop := Claim7.holds Ybaf.pinned (.plain (OpenSpec.ofChange lawS1401BDealsWrong)) lawS1401BDealsCard

/-- THE TOLD AND TIED CARD OF 'deals.LawS1401BReaderErr'. -/
def lawS1401BReaderErrCard : Claim7 := { stood := { row := lawS1401BReaderErrRow, standIns := [], harness := (true, "4289854c7381c3a84a8fa57a4fb2be3d47f9176de8b566f9825344745b27126b"), looks := true }, told := true, laidByText := true, laidKinds := [.data, .sentinel, .sentinel, .listed, .data, .sentinel, .sentinel, .sentinel, .sentinel, .sentinel, .pinned], laidTests := true, laidLooks := .later, goes := false }
def LawS1401BReaderErrToldSaid : Prop := Claim7.holds Ybaf.pinned (.plain (OpenSpec.ofChange lawS1401BReaderErrSpec)) lawS1401BReaderErrCard
/-- ITS FALSE NEIGHBOUR. Refute it at one input. -/
def LawS1401BReaderErrToldWrongFalsely : Prop := Claim7.holds Ybaf.pinned (.plain (OpenSpec.ofChange lawS1401BReaderErrWrong)) lawS1401BReaderErrCard

/-- THE TOLD AND TIED CARD OF 'poker.LawS1401CModel'. -/
def lawS1401CModelCard : Claim7 := { stood := { row := lawS1401CModelRow, standIns := [], harness := (true, "4289854c7381c3a84a8fa57a4fb2be3d47f9176de8b566f9825344745b27126b"), looks := true }, told := true, laidByText := true, laidKinds := [.sentinel, .sentinel], laidTests := true, laidLooks := .later, goes := false }
def LawS1401CModelToldSaid : Prop := Claim7.holds Ybaf.pinned (.plain (OpenSpec.ofChange lawS1401CModelSpec)) lawS1401CModelCard
/-- ITS FALSE NEIGHBOUR. Refute it at one input. -/
def LawS1401CModelToldWrongFalsely : Prop := Claim7.holds Ybaf.pinned (.plain (OpenSpec.ofChange lawS1401CModelWrong)) lawS1401CModelCard

/-- THE TOLD AND TIED CARD OF 'poker.LawS1401CRaiseAgrees'. -/
def lawS1401CRaiseAgreesCard : Claim7 := { stood := { row := lawS1401CRaiseAgreesRow, standIns := [], harness := (true, "4289854c7381c3a84a8fa57a4fb2be3d47f9176de8b566f9825344745b27126b"), looks := true }, told := true, laidByText := true, laidKinds := [.sentinel, .sentinel], laidTests := true, laidLooks := .later, goes := false }
def LawS1401CRaiseAgreesToldSaid : Prop := Claim7.holds Ybaf.pinned (.plain (OpenSpec.ofChange lawS1401CRaiseAgreesSpec)) lawS1401CRaiseAgreesCard
/-- ITS FALSE NEIGHBOUR. Refute it at one input. -/
def LawS1401CRaiseAgreesToldWrongFalsely : Prop := Claim7.holds Ybaf.pinned (.plain (OpenSpec.ofChange lawS1401CRaiseAgreesWrong)) lawS1401CRaiseAgreesCard
end Rows
end Go.Proofs.YbulkabzkFmt
