/- LawS1409BFrame: the walk, what the law itself appends. -/
import Derived.Test.YbulkacdsFmtFrameB
set_option linter.unusedVariables false
set_option linter.unusedSimpArgs false
namespace Go.Proofs.YbulkacdsFmt
open Go.RowKit Go.Extern.Stop Go.Stop Go.Extern

/-- Behind the law's own appends. -/
structure WantDone (w w9 wr : World) (pv dv : Value) (size reps l1 l2 : Nat) (f1 f2 : Nat → Int) (hasErr : Bool) (eb bc : Nat) (v9 err err9 want : Value) (m : Nat) : Prop where
  D : BlockDone w w9 pv dv size reps l1 l2 f1 f2 hasErr eb bc v9 err err9
  B : Below w9.heap.size w9 wr
  ho : wr.ownsRow w9.heap.size 5 1 want (l1 + size + m) (cellsOf f1 l1 ++ (hdr m size ++ repl (cellsOf f2 l2) reps))
  hm : m = reps * l2

set_option maxRecDepth 100000 in
set_option maxHeartbeats 4000000 in
def frmC (F : Interp) (w : World) (a1 : Option Addr) (b1 o1 l1 c1 : Nat) (f1 : Nat → Int) (a2 : Option Addr) (b2 o2 l2 c2 : Nat) (f2 : Nat → Int) (sel rep : Int) (hasErr : Bool) (size reps : Nat)
    (hF : F.answers w.tape) (h1 : (l1 : Int) ≤ 1024) (h2 : (l2 : Int) ≤ 1024) (hs0 : 0 ≤ sel) (hs1 : sel ≤ 255) (hr0 : 0 ≤ rep) (hr1 : rep ≤ 255) (hs : sel % 9 = (size : Int)) (hr : rep % 8 + 1 = (reps : Int))
    (D1 : Hid (Bytes w a1 b1 o1 l1 f1)) (D2 : Hid (Bytes w a2 b2 o2 l2 f2)) (n1 : Hid (a1 = none → c1 = 0)) (n2 : Hid (a2 = none → c2 = 0)) (t1 : Hid (∀ i, i < l1 → b1 < w.heap.size)) (t2 : Hid (∀ i, i < l2 → b2 < w.heap.size)) :
    { P : Prop // Box P → (frmB F w a1 b1 o1 l1 c1 f1 a2 b2 o2 l2 c2 f2 sel rep hasErr size reps hF h1 h2 hs0 hs1 hr0 hr1 hs hr D1 D2 n1 n2 t1 t2).1 } := ⟨_, fun hA => by
  intro dmy
  set_option tactic.hygienic false in intros
  obtain ⟨D9, B0, ho0, N0, hh0, hm⟩ := HT.out
  obtain ⟨v1, w1, hrun, ho1, hg1⟩ := app_own ho0 size hh0 (fun h => by cases h) 22 (by omega) N0
  have B1 : Below w9.heap.size w9 w1 := B0.grown hg1 N0 (own_blk ho0)
  obtain ⟨av1, cv1, rfl, hmx1⟩ := own_form ho1
  have HS : Hid _ := And.intro ho1 (And.intro B1 (And.intro D9 hm))
  clear HT D9 B0 ho0 N0 hh0 ho1 hg1 B1 hm
  go_wp2_with (at_builtin; refine Lib.wpList_append_run _ rfl _ _ _ _ rfl _ _ rfl rfl _ _ hrun ?_)
  clear hrun
  obtain ⟨ho1, B1, D9, hm⟩ := HS.out
  rw [← hdr_cells] at ho1
  go_loopw [19, 23] (fun x i wx => ∃ k : Nat, k ≤ reps ∧ i = .int .i64 k ∧ wx.ownsRow w9.heap.size 5 1 x (l1 + size + k * l2) (cellsOf f1 l1 ++ (hdr m size ++ repl (cellsOf f2 l2) k)) ∧ Below w9.heap.size w9 wx) (fun _ i _ => reps - (intOf i).toNat)
  case atStart => exact ⟨0, Nat.zero_le _, rfl, by rw [Nat.zero_mul, Nat.add_zero, repl, List.append_nil]; exact ho1, B1⟩
  case round =>
    obtain ⟨k, hk, rfl, hox, Bx⟩ := hrel
    have Dx := D9.later Bx
    have cr := cell_of_one Dx.rest.hr
    have cd := cell_of_one Dx.rest.hd
    by_cases hlt : k < reps
    · have hml : k * l2 ≤ 8 * 1024 := Nat.mul_le_mul (by omega) (by omega)
      obtain ⟨v2, w2, hrun, ho2, hg2⟩ := app_own hox c2 (D2.out.later t2.out Dx.B) n2.out 22 (by omega) Bx.size
      have B2 : Below w9.heap.size w9 w2 := Bx.grown hg2 Bx.size (own_blk hox)
      have hadd : l1 + size + k * l2 + l2 = l1 + size + (k + 1) * l2 := by rw [Nat.succ_mul]; omega
      rw [hadd, List.append_assoc, List.append_assoc] at ho2
      obtain ⟨ax, cx, rfl, hmx⟩ := own_form hox
      obtain ⟨ay, cy, rfl, hmy⟩ := own_form ho2
      have H2 : Hid _ := And.intro ho2 B2
      clear HS hox Bx Dx ho2 hg2 B2 D9 B1 ho1 hm hadd
      go_wp2_with (at_builtin; refine Lib.wpList_append_run _ rfl _ _ _ _ rfl _ _ rfl rfl _ _ hrun ?_)
      exact ⟨⟨k + 1, by omega, by go_num, H2.out.1, H2.out.2⟩, by simp [intOf]; omega⟩
    · obtain rfl : reps = k := by omega
      rw [← hm] at hox
      have HW : Hid (WantDone w w9 wr (.slice a1 l1 c1) (.slice a2 l2 c2) size reps l1 l2 f1 f2 hasErr eb bc v9 u14 err9 u19 m) := ⟨D9, Bx, hox, hm⟩
      clear HS ho1 B1 D9 hm hox Bx Dx cd
      go_upto_region 29 with fail
      clear cr hk hlt
      revert u14 u19 u27 u28 u29 u30 u31 u32 u33 u34 u35 u36 u37 u38 u39 u40 u41 u42 u43 u44 u45 u46 u47 u48 u49 u50 u51 u52 u53 u54 u55 u56 u57 u58 u59 u60 u61 u62 u63 u64 u65 u66 u67 u68 u69 u70 u71 u72 u73 u74 u75 u76 u77 u78 u79 u80 u81 u82 u83 u84 u85 u86 u87 u88 u89 u90 u91 u92 u93 u94 u95 u96 u97 u98 u99 u100 u101 u102 u103 u104 u105 u106 u107 u108 u109 u110 u111 u112 u113 u114 u115 u116 u117 u118 u119 u120 u121 u122 u123 u124 u125 u126 u127 u128 u129 u130 u131 u132 u133 u134 u135 u136 u137 u138
      repeat (first | clear u89 u90 u91 u92 u93 u94 u95 u96 | revert u89 u90 u91 u92 u93 u94 u95 u96)
      repeat revert ‹Act → World → Prop›
      repeat (first | clear ‹Exit → Act → World → Prop› | revert ‹Exit → Act → World → Prop›)
      first | clear w1 | revert w1
      revert wr
      first | clear wr | (rename World => wo; revert wo)
      first | clear w11 | revert w11
      revert w9 v9 err9 eb bc m gh av11 cv11 av1 cv1
      revert dmy
      exact hA.out⟩
end Go.Proofs.YbulkacdsFmt
