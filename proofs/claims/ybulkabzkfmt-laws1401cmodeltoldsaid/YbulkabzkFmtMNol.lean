/- LawS1401CModel: the walk, in parts. -/
import Derived.Test.YbulkabzkFmtM11
set_option linter.unusedVariables false
set_option linter.unusedSimpArgs false
namespace Go.Proofs.YbulkabzkFmt
open Go.RowKit Go.Extern.Stop Go.Stop Go.Extern

set_option maxRecDepth 100000 in
set_option maxHeartbeats 4000000 in
theorem mdlNol (sb : BuildSaid) (F : Interp) (w : World) (kind actor opened cap raises rsize roundBet lraise : Int) (useOp ff : Bool)
    (b1 o1 b2 o2 b3 o3 b4 o4 b5 o5 : Nat) (a1 a2 a3 a4 a5 : Option Addr) (l1 c1 l2 c2 l3 c3 l4 c4 l5 c5 : Nat) (f1 f2 f3 f5 : Nat → Int) (f4 : Nat → Bool)
    (I : InAt w kind actor opened cap raises rsize roundBet lraise b1 o1 b2 o2 b3 o3 b4 o4 b5 o5 a1 a2 a3 a4 a5 l1 l2 l3 l4 l5 f1 f2 f3 f5 f4) (hF : F.answers w.tape) (x1 : Addr) (s1 : ByteArray) (x2 : Addr) (V : VarsAt w x1 s1 x2) : (mdl11 sb F w kind actor opened cap raises rsize roundBet lraise useOp ff b1 o1 b2 o2 b3 o3 b4 o4 b5 o5 a1 a2 a3 a4 a5 l1 c1 l2 c2 l3 c3 l4 c4 l5 c5 f1 f2 f3 f5 f4 I hF x1 s1 x2 V).1.2.2.1 := by
  intro dmy
  set_option tactic.hygienic false in intros
  have hg0 := H6.g0
  rw [hk1, show betOf 1 = ⟨#[110, 111, 108, 105, 109, 105, 116]⟩ from rfl] at hg0
  have hg3 := H6.g3
  have hh10 := H6.h10
  have HR : Hid _ := raise_nol hd hc (Int.not_le.mp hle) (Nat.not_lt.mp hcan) hk1
  have HA : Hid _ := addUp_min S.largest S.step S.stackA
  have hE : Hid _ := step_eq S.blinds S.n (by have := O.n2; omega) S.lraise
  have hmb := maxTo_bd (a := 1) (b := 255) (f := S.blinds) (by decide) S.n O.bl1
  have hl0 := O.lr0
  have hl1 := O.lr1
  clear hk0 hk1
  go_wp2_with fail
  go_loop [23, 24] (fun x i => ∃ k : Nat, k ≤ S.n ∧ i = .int .i64 k ∧ x = .int .i64 (maxTo 1 S.blinds k)) (fun _ i => S.n - (intOf i).toNat)
  case atStart => exact ⟨0, Nat.zero_le _, rfl, rfl⟩
  case round =>
    obtain ⟨k, hk, rfl, rfl⟩ := hrel
    by_cases hlt : k < S.n
    · have hbk := H6.bli k hlt
      go_wp2
      · exact ⟨⟨k + 1, by omega, by go_num, by rw [maxTo, if_pos ‹_›]⟩, by simp [intOf]; omega⟩
      · exact ⟨⟨k + 1, by omega, by go_num, by rw [maxTo, if_neg (by omega)]⟩, by simp [intOf]; omega⟩
    · obtain rfl : k = S.n := by omega
      by_cases hs : maxTo 1 S.blinds S.n < S.lraise
      · have HS : Hid (S.step = S.lraise) := (hE.out.symm.trans (if_pos hs) :)
        by_cases hm : S.stacks S.actor < S.largest + S.lraise
        · have HB : Hid (addUp S.largest S.step S.stackA = S.stacks S.actor) := HA.out.symm.trans (if_pos (by rw [HS.out]; exact hm))
          go_wp2
          go_meet
          case rel => exact ⟨by rw [hd], by rw [HR.out.1], by rw [HR.out.2.1, HB.out], by rw [HR.out.2.2, hstA.out], H6, hbw6⟩
        · have HB : Hid (addUp S.largest S.step S.stackA = S.largest + S.lraise) := (HA.out.symm.trans (if_neg (by rw [HS.out]; exact hm))).trans (by rw [HS.out])
          go_wp2
          go_meet
          case rel => exact ⟨by rw [hd], by rw [HR.out.1], by rw [HR.out.2.1, HB.out], by rw [HR.out.2.2, hstA.out], H6, hbw6⟩
      · have HS : Hid (S.step = maxTo 1 S.blinds S.n) := (hE.out.symm.trans (if_neg hs) :)
        by_cases hm : S.stacks S.actor < S.largest + maxTo 1 S.blinds S.n
        · have HB : Hid (addUp S.largest S.step S.stackA = S.stacks S.actor) := HA.out.symm.trans (if_pos (by rw [HS.out]; exact hm))
          go_wp2
          go_meet
          case rel => exact ⟨by rw [hd], by rw [HR.out.1], by rw [HR.out.2.1, HB.out], by rw [HR.out.2.2, hstA.out], H6, hbw6⟩
        · have HB : Hid (addUp S.largest S.step S.stackA = S.largest + maxTo 1 S.blinds S.n) := (HA.out.symm.trans (if_neg (by rw [HS.out]; exact hm))).trans (by rw [HS.out])
          go_wp2
          go_meet
          case rel => exact ⟨by rw [hd], by rw [HR.out.1], by rw [HR.out.2.1, HB.out], by rw [HR.out.2.2, hstA.out], H6, hbw6⟩

end Go.Proofs.YbulkabzkFmt
