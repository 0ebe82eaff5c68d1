/- LawS1401CModel: the walk, in parts. -/
import Derived.Test.YbulkabzkFmtM10
set_option linter.unusedVariables false
set_option linter.unusedSimpArgs false
namespace Go.Proofs.YbulkabzkFmt
open Go.RowKit Go.Extern.Stop Go.Stop Go.Extern

set_option maxRecDepth 100000 in
set_option maxHeartbeats 4000000 in
theorem mdlCan (sb : BuildSaid) (F : Interp) (w : World) (kind actor opened cap raises rsize roundBet lraise : Int) (useOp ff : Bool)
    (b1 o1 b2 o2 b3 o3 b4 o4 b5 o5 : Nat) (a1 a2 a3 a4 a5 : Option Addr) (l1 c1 l2 c2 l3 c3 l4 c4 l5 c5 : Nat) (f1 f2 f3 f5 : Nat → Int) (f4 : Nat → Bool)
    (I : InAt w kind actor opened cap raises rsize roundBet lraise b1 o1 b2 o2 b3 o3 b4 o4 b5 o5 a1 a2 a3 a4 a5 l1 l2 l3 l4 l5 f1 f2 f3 f5 f4) (hF : F.answers w.tape) (x1 : Addr) (s1 : ByteArray) (x2 : Addr) (V : VarsAt w x1 s1 x2) : (mdl10 sb F w kind actor opened cap raises rsize roundBet lraise useOp ff b1 o1 b2 o2 b3 o3 b4 o4 b5 o5 a1 a2 a3 a4 a5 l1 c1 l2 c2 l3 c3 l4 c4 l5 c5 f1 f2 f3 f5 f4 I hF x1 s1 x2 V).1.2.1 := by
  intro dmy
  set_option tactic.hygienic false in intros
  go_wp2_with fail
  go_loopw [20, 21] (fun x i wr => ∃ k : Nat, k ≤ S.n ∧ i = .int .i64 k ∧ x = .int .i64 (cntTo S k) ∧ HandAt wr L S ∧ Below w.heap.size w wr) (fun _ i _ => S.n - (intOf i).toNat)
  case atStart => exact ⟨0, Nat.zero_le _, rfl, rfl, H5, hbw5⟩
  case round =>
    obtain ⟨k, hk, rfl, rfl, H6, hbw6⟩ := hrel
    have hcn := cntTo_le S k
    by_cases hlt : k < S.n
    · have hh4 := H6.h4
      have hfo := H6.foi k hlt
      cases hf : S.folded k
      · rw [hf] at hfo
        have hh3 := H6.h3
        have hsp := H6.spi k hlt
        by_cases hsk : S.spent k < S.stacks k
        · have HC : Hid (cntTo S (k + 1) = cntTo S k + 1) := by simp [Hid, cntTo, canActB, hf, hsk]
          have hdec : decide (S.spent k < S.stacks k) = true := by simpa using hsk
          clear hf
          go_wp2_with fail
          go_quiet ((go_at_call 12; exact Calls.quiet_of (stackOf_any _ L S O (H6.dN _) k hlt)))
          go_wp2
          exact ⟨⟨k + 1, by omega, by go_num, by rw [HC.out]; go_num, H6.dN nq, belT hbw6 (bel_dN nq)⟩, by simp [intOf]; omega⟩
        · have HC : Hid (cntTo S (k + 1) = cntTo S k) := by simp [Hid, cntTo, canActB, hf, hsk]
          have hdec : decide (S.spent k < S.stacks k) = false := by simpa using hsk
          clear hf
          go_wp2_with fail
          go_quiet ((go_at_call 12; exact Calls.quiet_of (stackOf_any _ L S O (H6.dN _) k hlt)))
          go_wp2
          exact ⟨⟨k + 1, by omega, by go_num, by rw [HC.out], H6.dN nq, belT hbw6 (bel_dN nq)⟩, by simp [intOf]; omega⟩
      · rw [hf] at hfo
        have HC : Hid (cntTo S (k + 1) = cntTo S k) := by simp [Hid, cntTo, canActB, hf]
        clear hf
        go_wp2_with fail
        go_quiet (fail)
        go_wp2
        exact ⟨⟨k + 1, by omega, by go_num, by rw [HC.out], H6.dN nq, belT hbw6 (bel_dN nq)⟩, by simp [intOf]; omega⟩
    · obtain rfl : k = S.n := by omega
      go_wp2
      go_meet
      case rel => exact ⟨rfl, H6, hbw6⟩

end Go.Proofs.YbulkabzkFmt
