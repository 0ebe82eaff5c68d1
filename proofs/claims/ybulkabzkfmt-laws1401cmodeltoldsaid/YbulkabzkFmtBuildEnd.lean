/- zzs1401cbuild: the walk, in parts. -/
import Derived.Test.YbulkabzkFmtBuildC
set_option linter.unusedVariables false
set_option linter.unusedSimpArgs false
namespace Go.Proofs.YbulkabzkFmt
open Go.RowKit

set_option maxRecDepth 100000 in
set_option maxHeartbeats 4000000 in
theorem bldEnd (w : World) (kind actor opened cap raises rsize roundBet lraise : Int) (useOp ff : Bool)
    (b1 o1 b2 o2 b3 o3 b4 o4 b5 o5 : Nat) (a1 a2 a3 a4 a5 : Option Addr) (l1 c1 l2 c2 l3 c3 l4 c4 l5 c5 : Nat) (f1 f2 f3 f5 : Nat → Int) (f4 : Nat → Bool)
    (kd0 : 0 ≤ kind) (kd1 : kind ≤ 255) (ac0 : 0 ≤ actor) (ac1 : actor ≤ 255) (op0 : 0 ≤ opened) (op1 : opened ≤ 255) (cp0 : -128 ≤ cap) (cp1 : cap ≤ 127) (rs0 : 0 ≤ raises) (rs1 : raises ≤ 255) (rz0 : 0 ≤ rsize) (rz1 : rsize ≤ 255)
    (rb0 : 0 ≤ roundBet) (rb1 : roundBet ≤ 65535) (lr0 : 0 ≤ lraise) (lr1 : lraise ≤ 65535)
    (hl1 : (l1 : Int) ≤ 9223372036854775807) (hl2 : (l2 : Int) ≤ 9223372036854775807) (hl3 : (l3 : Int) ≤ 9223372036854775807) (hl4 : (l4 : Int) ≤ 9223372036854775807) (hl5 : (l5 : Int) ≤ 9223372036854775807)
    (H1 : Hid (∀ i, i < l1 → a1 = some ⟨b1, o1, none⟩ ∧ w.cell? ⟨b1, o1 + i, none⟩ = some (.int .u16 (f1 i)) ∧ 0 ≤ f1 i ∧ f1 i ≤ 65535))
    (H2 : Hid (∀ i, i < l2 → a2 = some ⟨b2, o2, none⟩ ∧ w.cell? ⟨b2, o2 + i, none⟩ = some (.int .u8 (f2 i)) ∧ 0 ≤ f2 i ∧ f2 i ≤ 255))
    (H3 : Hid (∀ i, i < l3 → a3 = some ⟨b3, o3, none⟩ ∧ w.cell? ⟨b3, o3 + i, none⟩ = some (.int .u16 (f3 i)) ∧ 0 ≤ f3 i ∧ f3 i ≤ 65535))
    (H4 : Hid (∀ i, i < l4 → a4 = some ⟨b4, o4, none⟩ ∧ w.cell? ⟨b4, o4 + i, none⟩ = some (.bool (f4 i))))
    (H5 : Hid (∀ i, i < l5 → a5 = some ⟨b5, o5, none⟩ ∧ w.cell? ⟨b5, o5 + i, none⟩ = some (.int .u8 (f5 i)) ∧ 0 ≤ f5 i ∧ f5 i ≤ 255))  : (bld3 w kind actor opened cap raises rsize roundBet lraise useOp ff b1 o1 b2 o2 b3 o3 b4 o4 b5 o5 a1 a2 a3 a4 a5 l1 c1 l2 c2 l3 c3 l4 c4 l5 c5 f1 f2 f3 f5 f4 kd0 kd1 ac0 ac1 op0 op1 cp0 cp1 rs0 rs1 rz0 rz1 rb0 rb1 lr0 lr1 hl1 hl2 hl3 hl4 hl5 H1 H2 H3 H4 H5).1 := by
  intro n
  set_option tactic.hygienic false in intros
  obtain ⟨rfl, rfl⟩ := hcut
  have hmb := maxTo_bd (a := 0) (b := 65535) (f := sp) (by decide) n (fun i hi => Int.le_trans (r3 i hi).2 (r1 i hi).2)
  generalize maxTo 0 sp n = mx at *
  have u1 := wrap_id (x := (nops : Int) + 2) (by omega) (by omega)
  have u2 := wrap_id (x := mx + 1) (by omega) (by omega)
  have u3 := wrap_id (x := raises) (by omega) (by omega)
  have u4 := wrap_id (x := opened) (by omega) (by omega)
  have u5 := wrap_id (x := roundBet) (by omega) (by omega)
  have u6 := wrap_id (x := lraise) (by omega) (by omega)
  have u7 := wrap_id (x := actor) (by omega) (by omega)
  have t1 := Int.tmod_eq_emod_of_nonneg (b := 5) rs0
  have t2 := Int.tmod_eq_emod_of_nonneg (b := (nops : Int) + 2) op0
  have t3 := Int.tmod_eq_emod_of_nonneg (b := mx + 1) rb0
  have t4 := Int.tmod_eq_emod_of_nonneg (b := (n : Int)) ac0
  have ne1 : ((n : Int) == 0) = false := by rw [beq_eq_false_iff_ne]; omega
  have ne2 : ((nops : Int) + 2 == 0) = false := by rw [beq_eq_false_iff_ne]; omega
  have ne3 : (mx + 1 == 0) = false := by rw [beq_eq_false_iff_ne]; omega
  have ne4 : ¬ (mx + 1 = 0) := by omega
  have ne5 : ¬ (mx = -1) := by omega
  have ne6 : (mx == -1) = false := by rw [beq_eq_false_iff_ne]; omega
  have ne7 : 0 ≤ mx := hmb.1
  have ne8 : ¬ (n = 0) := by omega
  have ne9 : ¬ ((n : Int) = 0) := by omega
  have ne10 : 0 < n := by omega
  have hmk4 := fun (wx : World) => mk47 wx n hnb.2
  have HT : Hid _ := T3
  have HR : Hid _ := And.intro r1 (And.intro r2 (And.intro r3 (And.intro hops (And.intro hnb (And.intro hnops hmb)))))
  have HB : Hid _ := And.intro ac0 (And.intro op0 (And.intro rs0 (And.intro rb0 (And.intro lr0 lr1))))
  have HB2 : Hid _ := And.intro rb1 (And.intro rz0 rz1)
  clear H1 H2 H3 H4 H5 r1 r2 r3 T3 hops hnb hnops hmb hl1 hl2 hl3 hl4 hl5 kd0 kd1 ac0 ac1 op0 op1 cp0 cp1 rs0 rs1 rz0 rz1 rb0 rb1 lr0 lr1
  go_wp2_with fail
  go_region_held (fun w' => (∀ j, w'.cell? ⟨w.heap.size, j, none⟩ = (#[.int .u8 kind, .slice a1 l1 c1, .slice a2 l2 c2, .slice a3 l3 c3, .slice a4 l4 c4, .int .u8 actor, .bool useOp, .slice a5 l5 c5, .int .u8 opened, .int .i8 cap, .int .u8 raises, .int .u8 rsize, .int .u16 roundBet, .int .u16 lraise, .bool ff] : Array Value)[j]?) ∧ Below wc.heap.size wc w')
    ((refine heldBox HT.out (Below.drew ?_); first | with_reducible exact Below.refl _ _ | with_reducible exact bel1 _ _ | with_reducible exact bel2 _ _ _ | with_reducible exact bel3 _ _ _ _))
    (fail)
  all_goals
    go_wp2
    go_ret
    exact HandAt.fin G.out _ _ _ _ raises opened roundBet lraise actor mx HR.out HB.out HB2.out

end Go.Proofs.YbulkabzkFmt
