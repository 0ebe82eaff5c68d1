/- LawS1401CModel: the walk, in parts. -/
import Derived.Test.YbulkabzkFmtM8
set_option linter.unusedVariables false
set_option linter.unusedSimpArgs false
namespace Go.Proofs.YbulkabzkFmt
open Go.RowKit Go.Extern.Stop Go.Stop Go.Extern

set_option maxRecDepth 100000 in
set_option maxHeartbeats 4000000 in
theorem mdlEnd (sb : BuildSaid) (F : Interp) (w : World) (kind actor opened cap raises rsize roundBet lraise : Int) (useOp ff : Bool)
    (b1 o1 b2 o2 b3 o3 b4 o4 b5 o5 : Nat) (a1 a2 a3 a4 a5 : Option Addr) (l1 c1 l2 c2 l3 c3 l4 c4 l5 c5 : Nat) (f1 f2 f3 f5 : Nat → Int) (f4 : Nat → Bool)
    (I : InAt w kind actor opened cap raises rsize roundBet lraise b1 o1 b2 o2 b3 o3 b4 o4 b5 o5 a1 a2 a3 a4 a5 l1 l2 l3 l4 l5 f1 f2 f3 f5 f4) (hF : F.answers w.tape) (x1 : Addr) (s1 : ByteArray) (x2 : Addr) (V : VarsAt w x1 s1 x2) : (mdl8 sb F w kind actor opened cap raises rsize roundBet lraise useOp ff b1 o1 b2 o2 b3 o3 b4 o4 b5 o5 a1 a2 a3 a4 a5 l1 c1 l2 c2 l3 c3 l4 c4 l5 c5 f1 f2 f3 f5 f4 I hF x1 s1 x2 V).1.2 := by
  intro dmy
  set_option tactic.hygienic false in intros
  obtain ⟨rfl, rfl, rfl, rfl, H5, hbw5⟩ := hcut
  clear H4 hbw4 hh3 hsp hh8 hg9
  have hh0 := H5.h0
  go_wp2_with fail
  refine (choices_at F _ L S O H5 (ansB hbw5 hF) x1 s1 x2 (V.later hbw5)).mono ?_
  rintro e w7 ⟨rfl, hb7⟩
  unfold owedI
  have H7 := H5.later hb7
  have hbw7 := belT hbw5 hb7
  have hg0 := H7.g0
  obtain ⟨nl, hnl⟩ : ∃ nl, sizedB S = nl := ⟨_, rfl⟩
  have hnl' : ((betOf S.kind).toList == [110, 111, 108, 105, 109, 105, 116]) = nl := hnl
  have hg0' := fun (o : Obj) => cellLater (belAl o (Below.refl _ _)) hg0
  clear hbw5 H5 hh0
  go_wp2_with fail
  go_quiet (fail)
  go_wp2
  go_ret
  exact ⟨rfl, belT (belAl _ hbw7) (bel_dN nq)⟩

end Go.Proofs.YbulkabzkFmt
