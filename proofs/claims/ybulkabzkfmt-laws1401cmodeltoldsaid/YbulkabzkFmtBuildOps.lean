/- zzs1401cbuild: the walk, in parts. -/
import Derived.Test.YbulkabzkFmtBuildB
set_option linter.unusedVariables false
set_option linter.unusedSimpArgs false
namespace Go.Proofs.YbulkabzkFmt
open Go.RowKit

set_option maxRecDepth 100000 in
set_option maxHeartbeats 4000000 in
theorem bldOps (w : World) (kind actor opened cap raises rsize roundBet lraise : Int) (useOp ff : Bool)
    (b1 o1 b2 o2 b3 o3 b4 o4 b5 o5 : Nat) (a1 a2 a3 a4 a5 : Option Addr) (l1 c1 l2 c2 l3 c3 l4 c4 l5 c5 : Nat) (f1 f2 f3 f5 : Nat → Int) (f4 : Nat → Bool)
    (kd0 : 0 ≤ kind) (kd1 : kind ≤ 255) (ac0 : 0 ≤ actor) (ac1 : actor ≤ 255) (op0 : 0 ≤ opened) (op1 : opened ≤ 255) (cp0 : -128 ≤ cap) (cp1 : cap ≤ 127) (rs0 : 0 ≤ raises) (rs1 : raises ≤ 255) (rz0 : 0 ≤ rsize) (rz1 : rsize ≤ 255)
    (rb0 : 0 ≤ roundBet) (rb1 : roundBet ≤ 65535) (lr0 : 0 ≤ lraise) (lr1 : lraise ≤ 65535)
    (hl1 : (l1 : Int) ≤ 9223372036854775807) (hl2 : (l2 : Int) ≤ 9223372036854775807) (hl3 : (l3 : Int) ≤ 9223372036854775807) (hl4 : (l4 : Int) ≤ 9223372036854775807) (hl5 : (l5 : Int) ≤ 9223372036854775807)
    (H1 : Hid (∀ i, i < l1 → a1 = some ⟨b1, o1, none⟩ ∧ w.cell? ⟨b1, o1 + i, none⟩ = some (.int .u16 (f1 i)) ∧ 0 ≤ f1 i ∧ f1 i ≤ 65535))
    (H2 : Hid (∀ i, i < l2 → a2 = some ⟨b2, o2, none⟩ ∧ w.cell? ⟨b2, o2 + i, none⟩ = some (.int .u8 (f2 i)) ∧ 0 ≤ f2 i ∧ f2 i ≤ 255))
    (H3 : Hid (∀ i, i < l3 → a3 = some ⟨b3, o3, none⟩ ∧ w.cell? ⟨b3, o3 + i, none⟩ = some (.int .u16 (f3 i)) ∧ 0 ≤ f3 i ∧ f3 i ≤ 65535))
    (H4 : Hid (∀ i, i < l4 → a4 = some ⟨b4, o4, none⟩ ∧ w.cell? ⟨b4, o4 + i, none⟩ = some (.bool (f4 i))))
    (H5 : Hid (∀ i, i < l5 → a5 = some ⟨b5, o5, none⟩ ∧ w.cell? ⟨b5, o5 + i, none⟩ = some (.int .u8 (f5 i)) ∧ 0 ≤ f5 i ∧ f5 i ≤ 255))  : (bld2 w kind actor opened cap raises rsize roundBet lraise useOp ff b1 o1 b2 o2 b3 o3 b4 o4 b5 o5 a1 a2 a3 a4 a5 l1 c1 l2 c2 l3 c3 l4 c4 l5 c5 f1 f2 f3 f5 f4 kd0 kd1 ac0 ac1 op0 op1 cp0 cp1 rs0 rs1 rz0 rz1 rb0 rb1 lr0 lr1 hl1 hl2 hl3 hl4 hl5 H1 H2 H3 H4 H5).1.1 := by
  intro n
  set_option tactic.hygienic false in intros
  cases useOp
  · have TT : Hid _ := OpnAt.no T
    clear T r1 r2 r3
    go_wp2
    go_meet
    case rel => exact TT.out
  · have hmk := mk04
    obtain ⟨i0, hi, hz0, hz1, hz2⟩ := i3
    have hsz := T.sz
    go_wp2_with fail
    clear hmk
    go_loopw [13, 14] (fun v i wr => ∃ k : Nat, k ≤ 4 ∧ k ≤ l5 ∧ i = .int .i64 k ∧ v = .slice (some ⟨wc.heap.size, 0, none⟩) k 4 ∧ wr.ownsRow (w.heap.size + 8) 3 1 (.slice (some ⟨wc.heap.size, 0, none⟩) k 4) k (opsTo f5 k) ∧ Below wc.heap.size wc wr) (fun _ i _ => 4 - (intOf i).toNat)
    case atStart => exact ⟨0, by omega, by omega, rfl, rfl, World.ownsRow_made wc _ 4 hsz (by decide) (size_madeCells _ _), (Below.refl _ wc).alloc (Nat.le_refl _) _⟩
    case round =>
      obtain ⟨k, hk4, hkl, rfl, rfl, hown, hbw⟩ := hrel
      have Tr := T.later hbw
      clear hbox
      have hbox := Tr.box
      have hfin : Hid _ := fun (hx : k ≤ 4) => OpnAt.yes Tr rfl hx (fun i hi => (H5.out i (by omega)).2.2) hsz hown
      have hgc : wr.cell? ⟨w.heap.size + 7, 5, none⟩ = some (.slice none 0 0) := Tr.gc 5
      have hgz := Tr.gz 5
      have hsw : w.heap.size + 7 < wr.heap.size := Tr.sz
      by_cases h1 : k < l5
      · by_cases h2 : k < 4
        · clear hfin hgc hgz
          obtain ⟨rfl, hc, hlo, hhi⟩ := H5.out k h1
          have hcx := cellLater Tr.bel hc
          clear hc
          go_wp2_with (at_builtin; refine wpList_append_own_spare _ rfl _ _ 53 rfl (w.heap.size + 8) 3 i0 1 Ybaf.underlying53 hi hz1 wc.heap.size k 4 _ rfl (hown.alloc _) ⟨wr.heap.size, 0, none⟩ 1 1 [.int .i64 (f5 k)] rfl rfl (cell_one_new _ _ _) (by simp [Value.oneCell']) (by omega) ?_; intro w1 hown1 hgrow1)
          go_wp2
          exact ⟨⟨k + 1, by omega, by omega, by go_num, rfl, by rw [opsTo_succ]; exact hown1, (hbw.alloc hbw.size _).grown hgrow1 (by have := hbw.size; simp; omega) (fun q hq => by cases hq; exact Nat.le_refl _)⟩, by simp [intOf]; omega⟩
        · go_wp2
          go_meet
          case rel => exact hfin.out hk4
      · go_wp2
        go_meet
        case rel => exact hfin.out hk4

end Go.Proofs.YbulkabzkFmt
