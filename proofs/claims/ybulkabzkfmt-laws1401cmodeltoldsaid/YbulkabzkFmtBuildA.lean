/- zzs1401cbuild: the walk, in parts. -/
import Derived.Test.YbulkabzkFmtRows
import Derived.Test.YbulkabzkFmtFinish
import Derived.WalkKit
import Derived.WalkSpells
import Derived.WalkLawsBesides
import Derived.Deep.CutRange
import Derived.Deep.Cut
import Derived.Deep.CutBlock
import Derived.Deep.DeepAppendRoom
import Derived.Deep.RegionHeld
set_option linter.unusedVariables false
set_option linter.unusedSimpArgs false
namespace Go.Proofs.YbulkabzkFmt
open Go.RowKit

/-- How many players. -/
def nOf (l : Nat) : Nat := if l < 2 then 2 else if 8 < l then 8 else l
theorem nOf_bd (l : Nat) : 2 ≤ nOf l ∧ nOf l ≤ 8 := by unfold nOf; split <;> (try split) <;> omega

theorem nOf_lo {l : Nat} (h : l < 2) : nOf l = 2 := by simp [nOf, h]
theorem nOf_hi {l : Nat} (h : 8 < l) : nOf l = 8 := by unfold nOf; rw [if_neg (by omega), if_pos h]
theorem nOf_mid {l : Nat} (h : ¬ l < 2) (h' : ¬ 8 < l) : nOf l = l := by unfold nOf; rw [if_neg h, if_neg h']

set_option maxRecDepth 100000 in
theorem i3 : ∃ i, Ybaf.prog.info? 3 = some i ∧ i.zero = some (.int .i64 0) ∧ i.size = 1 ∧ i.bytes = 8 := ⟨_, (by kernel_rfl : _ = some Ybaf.t3), by kernel_rfl, by kernel_rfl, by kernel_rfl⟩
set_option maxRecDepth 100000 in
theorem i4 : ∃ i, Ybaf.prog.info? 4 = some i ∧ i.zero = some (.bool false) ∧ i.size = 1 ∧ i.bytes = 1 := ⟨_, (by kernel_rfl : _ = some Ybaf.t4), by kernel_rfl, by kernel_rfl, by kernel_rfl⟩

theorem mk53 (w : World) (n : Nat) (h : n ≤ 8) : (Instr.makeSlice 53 (.int .i64 n) (.int .i64 n)).run Ybaf.prog w = .ok (.slice (some ⟨w.heap.size, 0, none⟩) n n) (w.alloc (.cells (madeCells #[.int .i64 0] n) 3)) := by
  obtain ⟨i, hi, hz, hs, hb⟩ := i3
  have := run_make w 53 3 i _ Ybaf.underlying53 hi hz .i64 .i64 n n (by omega) (by omega) (by rw [hb]; omega) (by omega)
  rw [hs] at this
  simpa [Value.cells] using this
theorem mk04 (w : World) : (Instr.makeSlice 53 (.int .i64 0) (.int .i64 4)).run Ybaf.prog w = .ok (.slice (some ⟨w.heap.size, 0, none⟩) 0 4) (w.alloc (.cells (madeCells #[.int .i64 0] 4) 3)) := by
  obtain ⟨i, hi, hz, hs, hb⟩ := i3
  have := run_make w 53 3 i _ Ybaf.underlying53 hi hz .i64 .i64 0 4 (by omega) (by omega) (by rw [hb]; omega) (by omega)
  rw [hs] at this
  simpa [Value.cells] using this
theorem mk47 (w : World) (n : Nat) (h : n ≤ 8) : (Instr.makeSlice 47 (.int .i64 n) (.int .i64 n)).run Ybaf.prog w = .ok (.slice (some ⟨w.heap.size, 0, none⟩) n n) (w.alloc (.cells (madeCells #[.bool false] n) 4)) := by
  obtain ⟨i, hi, hz, hs, hb⟩ := i4
  have := run_make w 47 4 i _ Ybaf.underlying47 hi hz .i64 .i64 n n (by omega) (by omega) (by rw [hb]; omega) (by omega)
  rw [hs] at this
  simpa [Value.cells] using this

/-- A part that is handed over: the walk does not look behind the name. -/
structure Box (p : Prop) : Prop where
  out : p

set_option maxRecDepth 100000 in
set_option maxHeartbeats 4000000 in
def bld1 (w : World) (kind actor opened cap raises rsize roundBet lraise : Int) (useOp ff : Bool)
    (b1 o1 b2 o2 b3 o3 b4 o4 b5 o5 : Nat) (a1 a2 a3 a4 a5 : Option Addr) (l1 c1 l2 c2 l3 c3 l4 c4 l5 c5 : Nat) (f1 f2 f3 f5 : Nat → Int) (f4 : Nat → Bool)
    (kd0 : 0 ≤ kind) (kd1 : kind ≤ 255) (ac0 : 0 ≤ actor) (ac1 : actor ≤ 255) (op0 : 0 ≤ opened) (op1 : opened ≤ 255) (cp0 : -128 ≤ cap) (cp1 : cap ≤ 127) (rs0 : 0 ≤ raises) (rs1 : raises ≤ 255) (rz0 : 0 ≤ rsize) (rz1 : rsize ≤ 255)
    (rb0 : 0 ≤ roundBet) (rb1 : roundBet ≤ 65535) (lr0 : 0 ≤ lraise) (lr1 : lraise ≤ 65535)
    (hl1 : (l1 : Int) ≤ 9223372036854775807) (hl2 : (l2 : Int) ≤ 9223372036854775807) (hl3 : (l3 : Int) ≤ 9223372036854775807) (hl4 : (l4 : Int) ≤ 9223372036854775807) (hl5 : (l5 : Int) ≤ 9223372036854775807)
    (H1 : Hid (∀ i, i < l1 → a1 = some ⟨b1, o1, none⟩ ∧ w.cell? ⟨b1, o1 + i, none⟩ = some (.int .u16 (f1 i)) ∧ 0 ≤ f1 i ∧ f1 i ≤ 65535))
    (H2 : Hid (∀ i, i < l2 → a2 = some ⟨b2, o2, none⟩ ∧ w.cell? ⟨b2, o2 + i, none⟩ = some (.int .u8 (f2 i)) ∧ 0 ≤ f2 i ∧ f2 i ≤ 255))
    (H3 : Hid (∀ i, i < l3 → a3 = some ⟨b3, o3, none⟩ ∧ w.cell? ⟨b3, o3 + i, none⟩ = some (.int .u16 (f3 i)) ∧ 0 ≤ f3 i ∧ f3 i ≤ 65535))
    (H4 : Hid (∀ i, i < l4 → a4 = some ⟨b4, o4, none⟩ ∧ w.cell? ⟨b4, o4 + i, none⟩ = some (.bool (f4 i))))
    (H5 : Hid (∀ i, i < l5 → a5 = some ⟨b5, o5, none⟩ ∧ w.cell? ⟨b5, o5 + i, none⟩ = some (.int .u8 (f5 i)) ∧ 0 ≤ f5 i ∧ f5 i ≤ 255))  :
    { P : Prop × Prop // Box P.1 → Box P.2 → Calls Ybaf.prog 11 #[.agg #[.int .u8 kind, .slice a1 l1 c1, .slice a2 l2 c2, .slice a3 l3 c3, .slice a4 l4 c4, .int .u8 actor, .bool useOp, .slice a5 l5 c5, .int .u8 opened, .int .i8 cap, .int .u8 raises, .int .u8 rsize, .int .u16 roundBet, .int .u16 lraise, .bool ff]] w
      fun e w' => ∃ L S, e = .returned (.pointer (some ⟨L.h, 0, none⟩)) ∧ S.Ok ∧ HandAt w' L S ∧ Below w.heap.size w w' } := ⟨(_, _), fun hA hB => by
  have hnb := nOf_bd l1
  have hmk := fun (wx : World) => mk53 wx (nOf l1) hnb.2
  have hmk4 := fun (wx : World) => mk47 wx (nOf l1) hnb.2
  go_enter Ybaf.func11, Ybaf.ntmps11
  go_upto_if 21 with fail
  go_cut [3] from 17 to 209 (fun s wx => (∃ m : Nat, s = .int .i64 m ∧ nOf l1 = nOf m ∧ 2 ≤ m ∧ m ≤ 9223372036854775807) ∧ wx = w.alloc (.cells #[.int .u8 kind, .slice a1 l1 c1, .slice a2 l2 c2, .slice a3 l3 c3, .slice a4 l4 c4, .int .u8 actor, .bool useOp, .slice a5 l5 c5, .int .u8 opened, .int .i8 cap, .int .u8 raises, .int .u8 rsize, .int .u16 roundBet, .int .u16 lraise, .bool ff] 50))
  case first =>
    clear hmk hmk4
    by_cases hlt : l1 < 2
    · go_wp2
      go_meet
      case rel => exact ⟨⟨2, rfl, by rw [nOf_lo hlt]; rfl, by omega, by omega⟩, rfl⟩
    · go_wp2
      go_meet
      case rel => exact ⟨⟨l1, rfl, rfl, by omega, by omega⟩, rfl⟩
  case rest =>
    obtain ⟨⟨m, rfl, hm, hm2, hm3⟩, rfl⟩ := hcut
    have HM : Hid (nOf l1 = nOf m) := hm
    clear hm
    go_upto_if 23 with fail
    go_cut [3] from 17 to 209 (fun s wx => s = .int .i64 (nOf l1) ∧ wx = w.alloc (.cells #[.int .u8 kind, .slice a1 l1 c1, .slice a2 l2 c2, .slice a3 l3 c3, .slice a4 l4 c4, .int .u8 actor, .bool useOp, .slice a5 l5 c5, .int .u8 opened, .int .i8 cap, .int .u8 raises, .int .u8 rsize, .int .u16 roundBet, .int .u16 lraise, .bool ff] 50))
    case first =>
      clear hmk hmk4
      by_cases hlt : 8 < m
      · go_wp2
        go_meet
        case rel => exact ⟨by rw [HM.out, nOf_hi hlt]; rfl, rfl⟩
      · go_wp2
        go_meet
        case rel => exact ⟨by rw [HM.out, nOf_mid (by omega) hlt], rfl⟩
    case rest =>
      obtain ⟨rfl, rfl⟩ := hcut
      clear HM hm2 hm3
      generalize nOf l1 = n at hnb hmk hmk4 ⊢
      go_wp2_with fail
      clear hmk hmk4
      go_loopw [8] (fun i wr => ∃ k : Nat, k ≤ n ∧ i = .int .i64 k ∧ Full w #[.int .u8 kind, .slice a1 l1 c1, .slice a2 l2 c2, .slice a3 l3 c3, .slice a4 l4 c4, .int .u8 actor, .bool useOp, .slice a5 l5 c5, .int .u8 opened, .int .i8 cap, .int .u8 raises, .int .u8 rsize, .int .u16 roundBet, .int .u16 lraise, .bool ff] n wr) (fun i _ => n - (intOf i).toNat)
      case atStart => exact ⟨0, Nat.zero_le _, rfl, Full.start w _ 50 n⟩
      case round =>
        obtain ⟨k, hk, rfl, FF⟩ := hrel
        by_cases hlt : k < n
        · revert u9 u17 u18 u19 u20 u21 u22 u23 u24 u25 u26 u27 u28 u29 u30 u31 u32 u33 u34 u35 u36 u37 u38 u39 u40 u41 u42 u43 u44 u45 u46 u47 u48 u49 u50 u51 u52 u53 u54 u55 u56 u57 u58 u59 u60 u61 u62 u63 u64 u65 u66 u67 u68 u69 u70 u71 u72 u73 u74 u75 u76 u77 u78 u79 u80 u81 u82 u83 u84 u85 u86 u87 u88 u89 u90 u91 u92 u93 u94 u95 u96 u97 u98 u99 u100 u101 u102 u103 u104 u105 u106 u107 u108 u109 u110 u111 u112 u113 u114 u115 u116 u117 u118 u119 u120 u121 u122 u123 u124 u125 u126 u127 u128 u129 u130 u131 u132 u133 u134 u135 u136 u137 u138 u139 u140 u141 u142 u143 u144 u145 u146 u147 u148 u149 u150 u151 u152 u153 u154 u155 u156 u157 u158 u159 u160 u161 u162 u163 u164 u165 u166 u167 u168 u169 u170 u171 u172 u173 u174 u175 u176 u177 u178 u179 u180 u181 u182 u183 u184 u185 u186 u187 u188 u189 u190 u191 u192 u193 u194 u195 u196 u197 u198 u199 u200 u201 u202 u203 u204 u205 u206 u207 u208 u209
          repeat revert ‹Act → World → Prop›
          revert n wr k
          exact hA.out
        · revert u9 u17 u18 u19 u20 u21 u22 u23 u24 u25 u26 u27 u28 u29 u30 u31 u32 u33 u34 u35 u36 u37 u38 u39 u40 u41 u42 u43 u44 u45 u46 u47 u48 u49 u50 u51 u52 u53 u54 u55 u56 u57 u58 u59 u60 u61 u62 u63 u64 u65 u66 u67 u68 u69 u70 u71 u72 u73 u74 u75 u76 u77 u78 u79 u80 u81 u82 u83 u84 u85 u86 u87 u88 u89 u90 u91 u92 u93 u94 u95 u96 u97 u98 u99 u100 u101 u102 u103 u104 u105 u106 u107 u108 u109 u110 u111 u112 u113 u114 u115 u116 u117 u118 u119 u120 u121 u122 u123 u124 u125 u126 u127 u128 u129 u130 u131 u132 u133 u134 u135 u136 u137 u138 u139 u140 u141 u142 u143 u144 u145 u146 u147 u148 u149 u150 u151 u152 u153 u154 u155 u156 u157 u158 u159 u160 u161 u162 u163 u164 u165 u166 u167 u168 u169 u170 u171 u172 u173 u174 u175 u176 u177 u178 u179 u180 u181 u182 u183 u184 u185 u186 u187 u188 u189 u190 u191 u192 u193 u194 u195 u196 u197 u198 u199 u200 u201 u202 u203 u204 u205 u206 u207 u208 u209
          repeat revert ‹Act → World → Prop›
          revert n wr k
          exact hB.out⟩

end Go.Proofs.YbulkabzkFmt
