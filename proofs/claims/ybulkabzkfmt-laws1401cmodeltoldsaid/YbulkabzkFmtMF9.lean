/- LawS1401CModel: the walk, in parts. -/
import Derived.Test.YbulkabzkFmtM9
set_option linter.unusedVariables false
set_option linter.unusedSimpArgs false
namespace Go.Proofs.YbulkabzkFmt
open Go.RowKit Go.Extern.Stop Go.Stop Go.Extern

set_option maxRecDepth 100000 in
set_option maxHeartbeats 4000000 in
theorem mdlF9 (sb : BuildSaid) (F : Interp) (w : World) (kind actor opened cap raises rsize roundBet lraise : Int) (useOp ff : Bool)
    (b1 o1 b2 o2 b3 o3 b4 o4 b5 o5 : Nat) (a1 a2 a3 a4 a5 : Option Addr) (l1 c1 l2 c2 l3 c3 l4 c4 l5 c5 : Nat) (f1 f2 f3 f5 : Nat → Int) (f4 : Nat → Bool)
    (I : InAt w kind actor opened cap raises rsize roundBet lraise b1 o1 b2 o2 b3 o3 b4 o4 b5 o5 a1 a2 a3 a4 a5 l1 l2 l3 l4 l5 f1 f2 f3 f5 f4) (hF : F.answers w.tape) (x1 : Addr) (s1 : ByteArray) (x2 : Addr) (V : VarsAt w x1 s1 x2) : (mdl9 sb F w kind actor opened cap raises rsize roundBet lraise useOp ff b1 o1 b2 o2 b3 o3 b4 o4 b5 o5 a1 a2 a3 a4 a5 l1 c1 l2 c2 l3 c3 l4 c4 l5 c5 f1 f2 f3 f5 f4 I hF x1 s1 x2 V).1.1 := by
  intro dmy
  set_option tactic.hygienic false in intros
  have qN : ∀ (w : World) (a : Option Addr) (n c : Nat), (binOp .neq 53 (.slice a n c) (.slice none 0 0)).run Ybaf.prog w = .ok (.bool !a.isNone) w := fun w a n c => run_neq_slice_nil_any w _ _ a n c _ _ Ybaf.underlying53
  have hh7 := H4.h7
  cases hc : S.capped
  · have hg8 := H4.g8f hc
    have HC : Hid (S.capB = false) := by simp [Hid, St.capB, hc]
    clear hc
    go_quiet (fail)
    go_wp2
    go_meet
    case rel => exact ⟨by rw [HC.out], nq, rfl⟩
  · have hg8 := H4.g8t hc
    have hcp := H4.cp hc
    by_cases hlt : S.cap ≤ S.raises
    · have HC : Hid (S.capB = true) := by simp [Hid, St.capB, hc, hlt]
      have hdec : decide (S.cap ≤ S.raises) = true := by simpa using hlt
      clear hc
      go_quiet (fail)
      go_wp2
      go_meet
      case rel => exact ⟨by rw [HC.out], nq, rfl⟩
    · have HC : Hid (S.capB = false) := by simp [Hid, St.capB, hc, hlt]
      have hdec : decide (S.cap ≤ S.raises) = false := by simpa using hlt
      clear hc
      go_quiet (fail)
      go_wp2
      go_meet
      case rel => exact ⟨by rw [HC.out], nq, rfl⟩

end Go.Proofs.YbulkabzkFmt
