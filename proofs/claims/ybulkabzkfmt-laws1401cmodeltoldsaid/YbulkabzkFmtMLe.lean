/- LawS1401CModel: the walk, in parts. -/
import Derived.Test.YbulkabzkFmtM10
set_option linter.unusedVariables false
set_option linter.unusedSimpArgs false
namespace Go.Proofs.YbulkabzkFmt
open Go.RowKit Go.Extern.Stop Go.Stop Go.Extern

set_option maxRecDepth 100000 in
set_option maxHeartbeats 4000000 in
theorem mdlLe (sb : BuildSaid) (F : Interp) (w : World) (kind actor opened cap raises rsize roundBet lraise : Int) (useOp ff : Bool)
    (b1 o1 b2 o2 b3 o3 b4 o4 b5 o5 : Nat) (a1 a2 a3 a4 a5 : Option Addr) (l1 c1 l2 c2 l3 c3 l4 c4 l5 c5 : Nat) (f1 f2 f3 f5 : Nat → Int) (f4 : Nat → Bool)
    (I : InAt w kind actor opened cap raises rsize roundBet lraise b1 o1 b2 o2 b3 o3 b4 o4 b5 o5 a1 a2 a3 a4 a5 l1 l2 l3 l4 l5 f1 f2 f3 f5 f4) (hF : F.answers w.tape) (x1 : Addr) (s1 : ByteArray) (x2 : Addr) (V : VarsAt w x1 s1 x2) : (mdl10 sb F w kind actor opened cap raises rsize roundBet lraise useOp ff b1 o1 b2 o2 b3 o3 b4 o4 b5 o5 a1 a2 a3 a4 a5 l1 c1 l2 c2 l3 c3 l4 c4 l5 c5 f1 f2 f3 f5 f4 I hF x1 s1 x2 V).1.1 := by
  intro dmy
  set_option tactic.hygienic false in intros
  have HR : Hid _ := raise_no hd (.inr (.inl hle))
  go_wp2
  go_meet
  case rel => exact ⟨by rw [hd], by rw [HR.out.1], by rw [HR.out.2.1], by rw [HR.out.2.2], H5, hbw5⟩

end Go.Proofs.YbulkabzkFmt
