/- zzs1401cbuild: the walk, in parts. -/
import Derived.Test.YbulkabzkFmtBuildA
set_option linter.unusedVariables false
set_option linter.unusedSimpArgs false
namespace Go.Proofs.YbulkabzkFmt
open Go.RowKit

set_option maxRecDepth 100000 in
set_option maxHeartbeats 4000000 in
theorem bldRound (w : World) (kind actor opened cap raises rsize roundBet lraise : Int) (useOp ff : Bool)
    (b1 o1 b2 o2 b3 o3 b4 o4 b5 o5 : Nat) (a1 a2 a3 a4 a5 : Option Addr) (l1 c1 l2 c2 l3 c3 l4 c4 l5 c5 : Nat) (f1 f2 f3 f5 : Nat → Int) (f4 : Nat → Bool)
    (kd0 : 0 ≤ kind) (kd1 : kind ≤ 255) (ac0 : 0 ≤ actor) (ac1 : actor ≤ 255) (op0 : 0 ≤ opened) (op1 : opened ≤ 255) (cp0 : -128 ≤ cap) (cp1 : cap ≤ 127) (rs0 : 0 ≤ raises) (rs1 : raises ≤ 255) (rz0 : 0 ≤ rsize) (rz1 : rsize ≤ 255)
    (rb0 : 0 ≤ roundBet) (rb1 : roundBet ≤ 65535) (lr0 : 0 ≤ lraise) (lr1 : lraise ≤ 65535)
    (hl1 : (l1 : Int) ≤ 9223372036854775807) (hl2 : (l2 : Int) ≤ 9223372036854775807) (hl3 : (l3 : Int) ≤ 9223372036854775807) (hl4 : (l4 : Int) ≤ 9223372036854775807) (hl5 : (l5 : Int) ≤ 9223372036854775807)
    (H1 : Hid (∀ i, i < l1 → a1 = some ⟨b1, o1, none⟩ ∧ w.cell? ⟨b1, o1 + i, none⟩ = some (.int .u16 (f1 i)) ∧ 0 ≤ f1 i ∧ f1 i ≤ 65535))
    (H2 : Hid (∀ i, i < l2 → a2 = some ⟨b2, o2, none⟩ ∧ w.cell? ⟨b2, o2 + i, none⟩ = some (.int .u8 (f2 i)) ∧ 0 ≤ f2 i ∧ f2 i ≤ 255))
    (H3 : Hid (∀ i, i < l3 → a3 = some ⟨b3, o3, none⟩ ∧ w.cell? ⟨b3, o3 + i, none⟩ = some (.int .u16 (f3 i)) ∧ 0 ≤ f3 i ∧ f3 i ≤ 65535))
    (H4 : Hid (∀ i, i < l4 → a4 = some ⟨b4, o4, none⟩ ∧ w.cell? ⟨b4, o4 + i, none⟩ = some (.bool (f4 i))))
    (H5 : Hid (∀ i, i < l5 → a5 = some ⟨b5, o5, none⟩ ∧ w.cell? ⟨b5, o5 + i, none⟩ = some (.int .u8 (f5 i)) ∧ 0 ≤ f5 i ∧ f5 i ≤ 255))  : (bld1 w kind actor opened cap raises rsize roundBet lraise useOp ff b1 o1 b2 o2 b3 o3 b4 o4 b5 o5 a1 a2 a3 a4 a5 l1 c1 l2 c2 l3 c3 l4 c4 l5 c5 f1 f2 f3 f5 f4 kd0 kd1 ac0 ac1 op0 op1 cp0 cp1 rs0 rs1 rz0 rz1 rb0 rb1 lr0 lr1 hl1 hl2 hl3 hl4 hl5 H1 H2 H3 H4 H5).1.1 := by
  intro n
  set_option tactic.hygienic false in intros
  go_upto_region 13 with fail
  go_cut [] from 32 to 101 (fun wx => Mid w #[.int .u8 kind, .slice a1 l1 c1, .slice a2 l2 c2, .slice a3 l3 c3, .slice a4 l4 c4, .int .u8 actor, .bool useOp, .slice a5 l5 c5, .int .u8 opened, .int .i8 cap, .int .u8 raises, .int .u8 rsize, .int .u16 roundBet, .int .u16 lraise, .bool ff] n k wx)
  case first =>
    obtain ⟨stk, bl, sp, fo, R, r1, r2, r3⟩ := FF
    have q1 := R.c1 k hlt
    have z1 := R.z1 k
    have M1 : Hid _ := Mid.set1 R hlt r1 r2 (fun i hi _ => r3 i hi) (v := 100) (by decide)
    clear r1 r2 r3 R
    go_wp2
    go_meet
    case rel => exact M1.out
  case rest =>
    obtain ⟨stk, bl, sp, fo, R, r1, r2, r3⟩ := hcut
    clear FF
    have hbox := R.box
    go_upto_if 44 with fail
    go_cut [] from 32 to 101 (fun wx => Mid w #[.int .u8 kind, .slice a1 l1 c1, .slice a2 l2 c2, .slice a3 l3 c3, .slice a4 l4 c4, .int .u8 actor, .bool useOp, .slice a5 l5 c5, .int .u8 opened, .int .i8 cap, .int .u8 raises, .int .u8 rsize, .int .u16 roundBet, .int .u16 lraise, .bool ff] n k wx)
    case first =>
      by_cases hs1 : k < l1
      · obtain ⟨rfl, hc, hlo, hhi⟩ := H1.out k hs1
        have hcx := cellLater R.bel hc
        have q1 := R.c1 k hlt
        have z1 := R.z1 k
        have M1 : Hid _ := Mid.set1 R hlt r1 r2 r3 ⟨hlo, hhi⟩
        clear r1 r2 r3 R hc
        go_wp2
        go_meet
        case rel => exact M1.out
      · have M1 : Hid _ := (⟨stk, bl, sp, fo, R, r1, r2, r3⟩ : Mid w #[.int .u8 kind, .slice a1 l1 c1, .slice a2 l2 c2, .slice a3 l3 c3, .slice a4 l4 c4, .int .u8 actor, .bool useOp, .slice a5 l5 c5, .int .u8 opened, .int .i8 cap, .int .u8 raises, .int .u8 rsize, .int .u16 roundBet, .int .u16 lraise, .bool ff] n k wc)
        clear r1 r2 r3 R
        go_wp2
        go_meet
        case rel => exact M1.out
    case rest =>
      clear R r1 r2 r3 hbox
      obtain ⟨stk, bl, sp, fo, R, r1, r2, r3⟩ := hcut
      have hbox := R.box
      go_upto_if 58 with fail
      go_cut [] from 32 to 101 (fun wx => Mid w #[.int .u8 kind, .slice a1 l1 c1, .slice a2 l2 c2, .slice a3 l3 c3, .slice a4 l4 c4, .int .u8 actor, .bool useOp, .slice a5 l5 c5, .int .u8 opened, .int .i8 cap, .int .u8 raises, .int .u8 rsize, .int .u16 roundBet, .int .u16 lraise, .bool ff] n k wx)
      case first =>
        by_cases hs1 : k < l2
        · obtain ⟨rfl, hc, hlo, hhi⟩ := H2.out k hs1
          have hcx := cellLater R.bel hc
          have q1 := R.c2 k hlt
          have z1 := R.z2 k
          have M1 : Hid _ := Mid.set2 R hlt r1 r2 r3 ⟨hlo, hhi⟩
          clear r1 r2 r3 R hc
          go_wp2
          go_meet
          case rel => exact M1.out
        · have M1 : Hid _ := (⟨stk, bl, sp, fo, R, r1, r2, r3⟩ : Mid w #[.int .u8 kind, .slice a1 l1 c1, .slice a2 l2 c2, .slice a3 l3 c3, .slice a4 l4 c4, .int .u8 actor, .bool useOp, .slice a5 l5 c5, .int .u8 opened, .int .i8 cap, .int .u8 raises, .int .u8 rsize, .int .u16 roundBet, .int .u16 lraise, .bool ff] n k wc)
          clear r1 r2 r3 R
          go_wp2
          go_meet
          case rel => exact M1.out
      case rest =>
        clear R r1 r2 r3 hbox
        obtain ⟨stk, bl, sp, fo, R, r1, r2, r3⟩ := hcut
        have hbox := R.box
        go_upto_if 72 with fail
        go_cut [9] from 32 to 101 (fun s wx => ∃ v : Int, s = .int .i64 v ∧ 0 ≤ v ∧ v ≤ 65535 ∧ Mid w #[.int .u8 kind, .slice a1 l1 c1, .slice a2 l2 c2, .slice a3 l3 c3, .slice a4 l4 c4, .int .u8 actor, .bool useOp, .slice a5 l5 c5, .int .u8 opened, .int .i8 cap, .int .u8 raises, .int .u8 rsize, .int .u16 roundBet, .int .u16 lraise, .bool ff] n k wx)
        case first =>
          have M1 : Hid _ := (⟨stk, bl, sp, fo, R, r1, r2, r3⟩ : Mid w #[.int .u8 kind, .slice a1 l1 c1, .slice a2 l2 c2, .slice a3 l3 c3, .slice a4 l4 c4, .int .u8 actor, .bool useOp, .slice a5 l5 c5, .int .u8 opened, .int .i8 cap, .int .u8 raises, .int .u8 rsize, .int .u16 roundBet, .int .u16 lraise, .bool ff] n k wc)
          by_cases hs1 : k < l3
          · obtain ⟨rfl, hc, hlo, hhi⟩ := H3.out k hs1
            have hcx := cellLater R.bel hc
            clear r1 r2 r3 R hc
            go_wp2
            go_meet
            case rel => exact ⟨_, rfl, hlo, hhi, M1.out⟩
          · clear r1 r2 r3 R
            go_wp2
            go_meet
            case rel => exact ⟨0, rfl, by decide, by decide, M1.out⟩
        case rest =>
          clear R r1 r2 r3 hbox
          obtain ⟨v, rfl, hv0, hv1, stk, bl, sp, fo, R, r1, r2, r3⟩ := hcut
          go_upto_region 21 with fail
          go_cut [] from 32 to 101 (fun wx => Full w #[.int .u8 kind, .slice a1 l1 c1, .slice a2 l2 c2, .slice a3 l3 c3, .slice a4 l4 c4, .int .u8 actor, .bool useOp, .slice a5 l5 c5, .int .u8 opened, .int .i8 cap, .int .u8 raises, .int .u8 rsize, .int .u16 roundBet, .int .u16 lraise, .bool ff] n wx)
          case first =>
            have q1 := R.c1 k hlt
            have q3 := R.c3 k hlt
            have z3 := R.z3 k
            have hk1 := (r1 k hlt).1
            have hk2 := (r1 k hlt).2
            have hne : (stk k + 1 == 0) = false := by rw [beq_eq_false_iff_ne]; omega
            have M1 : Hid _ := fun (u : Int) (hu : 0 ≤ u ∧ u ≤ stk k) => Full.set3 R hlt r1 r2 r3 hu
            clear r1 r2 r3 R
            go_wp2
            go_meet
            case rel => exact M1.out _ ⟨Int.emod_nonneg _ (by omega), by have := Int.emod_lt_of_pos v (show 0 < stk k + 1 by omega); omega⟩
          case rest =>
            clear R r1 r2 r3 hv0 hv1
            obtain ⟨stk, bl, sp, fo, R, r1, r2, r3⟩ := hcut
            have hbox := R.box
            by_cases hs1 : k < l4
            · obtain ⟨rfl, hc⟩ := H4.out k hs1
              have hcx := cellLater R.bel hc
              have q1 := R.c4 k hlt
              have z1 := R.z4 k
              have M1 : Hid _ := fun (u : Bool) => Full.set4 R hlt r1 r2 r3 u
              clear r1 r2 r3 R hc
              go_wp2
              exact ⟨⟨k + 1, by omega, by go_num, M1.out _⟩, by simp [intOf]; omega⟩
            · have M1 : Hid _ := (⟨stk, bl, sp, fo, R, r1, r2, r3⟩ : Full _ _ _ _)
              clear r1 r2 r3 R
              go_wp2
              exact ⟨⟨k + 1, by omega, by go_num, M1.out⟩, by simp [intOf]; omega⟩

end Go.Proofs.YbulkabzkFmt
