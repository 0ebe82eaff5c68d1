/- LawS1409BFrame: the walk, from block's return to the header's bytes. -/
import Derived.Test.YbulkacdsFmtFrameA
set_option linter.unusedVariables false
set_option linter.unusedSimpArgs false
namespace Go.Proofs.YbulkacdsFmt
open Go.RowKit Go.Extern.Stop Go.Stop Go.Extern

theorem mk22 (w : World) (n : Nat) (h : n ≤ 100000) : (Instr.makeSlice 22 (.int .i64 0) (.int .i64 n)).run Ybaf.prog w = .ok (.slice (some ⟨w.heap.size, 0, none⟩) 0 n) (w.alloc (.cells (madeCells #[.int .u8 0] n) 5)) := by
  obtain ⟨i, hi, hz, hs, hb⟩ := i5
  have := run_make w 22 5 i _ Ybaf.underlying22 hi hz .i64 .i64 0 n (by omega) (by omega) (by rw [hb]; omega) (by omega)
  rw [hs] at this
  simpa [Value.cells] using this
theorem mk22f (w : World) (n : Nat) (h : n ≤ 100000) : (Instr.makeSlice 22 (.int .i64 n) (.int .i64 n)).run Ybaf.prog w = .ok (.slice (some ⟨w.heap.size, 0, none⟩) n n) (w.alloc (.cells (madeCells #[.int .u8 0] n) 5)) := by
  obtain ⟨i, hi, hz, hs, hb⟩ := i5
  have := run_make w 22 5 i _ Ybaf.underlying22 hi hz .i64 .i64 n n (by omega) (by omega) (by rw [hb]; omega) (by omega)
  rw [hs] at this
  simpa [Value.cells] using this

theorem BlockDone.later {w w9 w' : World} {pv dv : Value} {size reps l1 l2 : Nat} {f1 f2 : Nat → Int} {hasErr : Bool} {eb bc : Nat} {v9 err err9 : Value} (D : BlockDone w w9 pv dv size reps l1 l2 f1 f2 hasErr eb bc v9 err err9) (hb : Below w9.heap.size w9 w') :
    BlockDone w w' pv dv size reps l1 l2 f1 f2 hasErr eb bc v9 err err9 := by
  have O : Other [] w9 w' := Other.below hb
  have g : ∀ {k : Nat} {cs : Array Value} {t : TypeId}, t ≠ 5 → w9.heap[k]? = some (.cells cs t (0, 0)) → w'.heap[k]? = some (.cells cs t (0, 0)) := fun ht h => O _ _ _ ht (by simp) h
  have R := D.rest
  exact ⟨⟨g (by decide) R.hv, g (by decide) R.hs1, g (by decide) R.hp, g (by decide) R.hs, g (by decide) R.hs2, g (by decide) R.hr, g (by decide) R.hd⟩, g (by decide) D.hc, g (by decide) D.he, own_below D.ho hb, D.B.trans (hb.mono D.N), Nat.le_trans D.N hb.size, D.errs, D.early⟩

/-- The header's bytes, the last k of them laid. -/
def hdrDown (m size k : Nat) : List Value := List.replicate (size - k) (.int .u8 0) ++ (hdr m size).drop (size - k)

theorem hdrDown_start (w : World) (m size : Nat) (h : size ≤ 8) : (w.alloc (.cells (madeCells #[.int .u8 0] size) 5)).ownsRow w.heap.size 5 1 (.slice (some ⟨w.heap.size, 0, none⟩) size size) size (hdrDown m size 0) := by
  have := World.ownsRow_lit (base := w.heap.size) (e := 5) (size := 1) w (madeCells #[.int .u8 0] size) size (Nat.le_refl _) (by simp only [maxLen]; omega) (by rw [size_madeCells]; omega)
  rw [toList_madeCells_one] at this
  unfold hdrDown
  rw [Nat.sub_zero, List.drop_of_length_le (by rw [hdr_length]; exact Nat.le_refl _), List.append_nil]
  exact this

theorem hdrDown_step (m size k q : Nat) (h : size = q + 1 + k) : (hdrDown m size k).set q (hb m size q) = hdrDown m size (k + 1) := by
  unfold hdrDown
  have h1 : size - k = q + 1 := by omega
  have h2 : size - (k + 1) = q := by omega
  rw [h1, h2, List.replicate_succ', List.append_assoc]
  rw [List.set_append_right _ _ (by simp), List.length_replicate, Nat.sub_self]
  have h3 : (hdr m size).drop q = hb m size q :: (hdr m size).drop (q + 1) := by
    rw [List.drop_eq_getElem_cons (by rw [hdr_length]; omega)]
    simp [hdr]
  rw [h3]
  rfl

theorem hdrDown_all (m size : Nat) : hdrDown m size size = hdr m size := by simp [hdrDown]

theorem hb_at (m size k q : Nat) (h : size = q + 1 + k) : Value.int IntKind.u8 ((m : Int) / 256 ^ k % 256) = hb m size q := by
  unfold hb
  have h1 : size - 1 - q = k := by omega
  rw [h1]
  congr 1
theorem div_step (m k : Nat) : (m : Int) / 256 ^ k / 256 = ((m / 256 ^ (k + 1) : Nat) : Int) := by
  have h : m / 256 ^ (k + 1) = m / 256 ^ k / 256 := by rw [Nat.pow_succ, Nat.div_div_eq_div_mul]
  rw [h]
  rfl

/-- The header's bytes as numbers. -/
def hf (m size i : Nat) : Int := ((m / 256 ^ (size - 1 - i) % 256 : Nat) : Int)
theorem hdr_cells (m size : Nat) : hdr m size = cellsOf (hf m size) size := rfl
theorem hdr_bytes {wr : World} {B g m size : Nat} (ho : wr.ownsRow B 5 1 (.slice (some ⟨g, 0, none⟩) size size) size (hdrDown m size size)) : Bytes wr (some ⟨g, 0, none⟩) g 0 size (hf m size) := by
  intro i hi
  rw [hdrDown_all, hdr_cells] at ho
  refine ⟨rfl, ?_, Int.natCast_nonneg _, ?_⟩
  · rw [Nat.zero_add]
    exact (ho.cellAt i (by omega)).trans (cellsOf_get _ _ _ hi)
  · have := Nat.mod_lt (m / 256 ^ (size - 1 - i)) (show 0 < 256 by omega)
    unfold hf
    omega

/-- Behind the header's loop. -/
structure HdrDone (w w9 wr : World) (pv dv : Value) (size reps l1 l2 : Nat) (f1 f2 : Nat → Int) (hasErr : Bool) (eb bc : Nat) (v9 err err9 want : Value) (gh m : Nat) : Prop where
  D : BlockDone w w9 pv dv size reps l1 l2 f1 f2 hasErr eb bc v9 err err9
  B : Below w9.heap.size w9 wr
  ho : wr.ownsRow w9.heap.size 5 1 want l1 (cellsOf f1 l1)
  N : w9.heap.size ≤ wr.heap.size
  hh : Bytes wr (some ⟨gh, 0, none⟩) gh 0 size (hf m size)
  hm : m = reps * l2

set_option maxRecDepth 100000 in
set_option maxHeartbeats 4000000 in
def frmB (F : Interp) (w : World) (a1 : Option Addr) (b1 o1 l1 c1 : Nat) (f1 : Nat → Int) (a2 : Option Addr) (b2 o2 l2 c2 : Nat) (f2 : Nat → Int) (sel rep : Int) (hasErr : Bool) (size reps : Nat)
    (hF : F.answers w.tape) (h1 : (l1 : Int) ≤ 1024) (h2 : (l2 : Int) ≤ 1024) (hs0 : 0 ≤ sel) (hs1 : sel ≤ 255) (hr0 : 0 ≤ rep) (hr1 : rep ≤ 255) (hs : sel % 9 = (size : Int)) (hr : rep % 8 + 1 = (reps : Int))
    (D1 : Hid (Bytes w a1 b1 o1 l1 f1)) (D2 : Hid (Bytes w a2 b2 o2 l2 f2)) (n1 : Hid (a1 = none → c1 = 0)) (n2 : Hid (a2 = none → c2 = 0)) (t1 : Hid (∀ i, i < l1 → b1 < w.heap.size)) (t2 : Hid (∀ i, i < l2 → b2 < w.heap.size)) :
    { P : Prop // Box P → (frmA F w a1 b1 o1 l1 c1 f1 a2 b2 o2 l2 c2 f2 sel rep hasErr size reps hF h1 h2 hs0 hs1 hr0 hr1 hs hr D1 D2 n1 n2 t1 t2).1 } := ⟨_, fun hA => by
  intro dmy
  set_option tactic.hygienic false in intros
  have D9 := HS2.out
  obtain ⟨m, hm⟩ : ∃ m, m = reps * l2 := ⟨_, rfl⟩
  have hm8 : m ≤ 8 * 1024 := by rw [hm]; exact Nat.mul_le_mul (by omega) (by omega)
  have hmul : (l2 : Int) * (reps : Int) = (m : Int) := by rw [hm, Int.natCast_mul, Int.mul_comm]
  have cd9 := cell_of_one D9.rest.hd
  have cr9 := cell_of_one D9.rest.hr
  have cp9 := cell_of_one D9.rest.hp
  have cs9 := cell_of_one D9.rest.hs
  have hmk := fun (wx : World) => mk22 wx (l1 + size + m) (by omega)
  rw [Int.natCast_add, Int.natCast_add] at hmk
  have Hm : Hid _ := hm
  have HD : Hid _ := D9
  clear HS2 D9 hm
  go_upto_region 16 with fail
  obtain ⟨W10, hW10⟩ : ∃ W, W = w9.alloc (.cells (madeCells #[.int .u8 0] (l1 + size + m)) 5) := ⟨_, rfl⟩
  have ho10 : W10.ownsRow w9.heap.size 5 1 (.slice (some ⟨w9.heap.size, 0, none⟩) 0 (l1 + size + m)) 0 [] := by
    rw [hW10]; exact World.ownsRow_made w9 _ _ (Nat.le_refl _) (by simp only [maxLen]; omega) (by rw [size_madeCells]; omega)
  have B10 : Below w9.heap.size w9 W10 := by rw [hW10]; exact (Below.refl _ w9).alloc (Nat.le_refl _) _
  rw [← hW10]
  clear hW10 cd9 cr9 cp9 cs9 hmk
  have D10 := HD.out.later B10
  obtain ⟨v11, w11, hrun, ho11, hg11⟩ := app_own ho10 c1 (D1.out.later t1.out D10.B) n1.out 22 (by omega) B10.size
  rw [Nat.zero_add, List.nil_append] at ho11
  have B11 : Below w9.heap.size w9 w11 := B10.grown hg11 B10.size (own_blk ho10)
  obtain ⟨av11, cv11, rfl, hmx11⟩ := own_form ho11
  have D11 := HD.out.later B11
  have cs11 := cell_of_one D11.rest.hs
  have ls11 := lt_of_block D11.rest.hs
  have cp10 := cell_of_one D10.rest.hp
  have hmk2 := fun (wx : World) => mk22f wx size (by omega)
  have H11 : Hid _ := And.intro ho11 (And.intro B11 D11)
  clear ho10 B10 D10 ho11 hg11 B11 D11
  go_wp2_with (at_builtin; refine Lib.wpList_append_run _ rfl _ _ _ _ rfl _ _ rfl rfl _ _ hrun ?_)
  clear hrun hmk2 cp10
  go_loopw [21, 22] (fun x i wr => ∃ k : Nat, k ≤ size ∧ i = .int .i64 ((size : Int) - 1 - k) ∧ x = .int .i64 ((m / 256 ^ k : Nat) : Int) ∧ wr.ownsRow w11.heap.size 5 1 (.slice (some ⟨w11.heap.size, 0, none⟩) size size) size (hdrDown m size k) ∧ Below w11.heap.size w11 wr) (fun _ i _ => (intOf i + 1).toNat)
  case atStart => exact ⟨0, Nat.zero_le _, by simp, by simp, hdrDown_start w11 m size (by omega), (Below.refl _ w11).alloc (Nat.le_refl _) _⟩
  case round =>
    obtain ⟨k, hk, rfl, rfl, hoh, Bh⟩ := hrel
    by_cases hlt : k < size
    · obtain ⟨q, hq⟩ : ∃ q : Nat, size = q + 1 + k := ⟨size - 1 - k, by omega⟩
      have hqi : (size : Int) - 1 - (k : Int) = (q : Int) := by omega
      have hqs : (q : Int) < (size : Int) := by omega
      have hqs' : q < size := by omega
      have hzh := hoh.frozenAt q
      have hch := hoh.cellAt q (by omega)
      obtain ⟨u, hu⟩ : ∃ u, (hdrDown m size k)[q]? = some u := ⟨_, List.getElem?_eq_getElem (by have := hoh.1; omega)⟩
      rw [hu] at hch
      obtain ⟨hst, -⟩ := hoh.stored q (hb m size q)
      rw [hdrDown_step m size k q hq] at hst
      have Bh' := Bh.setCell (p := ⟨w11.heap.size, q, none⟩) (Nat.le_refl _) (hb m size q)
      have HH : Hid _ := And.intro hst Bh'
      have Hq : Hid _ := hq
      have Hbq : Hid (Value.int IntKind.u8 ((m : Int) / 256 ^ k % 256) = hb m size q) := hb_at m size k q hq
      clear hu hoh Bh hst Bh' hq H11 HD
      rw [hqi]
      clear hqi
      go_wp2
      rw [Hbq.out]
      exact ⟨⟨k + 1, by omega, by have := Hq.out; congr 1; omega, by rw [div_step], HH.out.1, HH.out.2⟩, by simp [intOf]⟩
    · obtain rfl : size = k := by omega
      have hqi : (size : Int) - 1 - (size : Int) = -1 := by omega
      rw [hqi]
      clear hqi
      obtain ⟨ho11, B11, D11⟩ := H11.out
      have HT : Hid (HdrDone w w9 wr (.slice a1 l1 c1) (.slice a2 l2 c2) size reps l1 l2 f1 f2 hasErr eb bc v9 u14 err9 (.slice av11 l1 cv11) w11.heap.size m) :=
        ⟨HD.out, B11.trans (Bh.mono B11.size), own_below ho11 Bh, Nat.le_trans B11.size Bh.size, hdr_bytes hoh, Hm.out⟩
      clear H11 ho11 B11 D11 hoh Bh HD Hm cs11 ls11 hk hlt hmx11
      generalize w11.heap.size = gh at HT ⊢
      go_upto_region 24 with fail
      revert u14 u27 u28 u29 u30 u31 u32 u33 u34 u35 u36 u37 u38 u39 u40 u41 u42 u43 u44 u45 u46 u47 u48 u49 u50 u51 u52 u53 u54 u55 u56 u57 u58 u59 u60 u61 u62 u63 u64 u65 u66 u67 u68 u69 u70 u71 u72 u73 u74 u75 u76 u77 u78 u79 u80 u81 u82 u83 u84 u85 u86 u87 u88 u89 u90 u91 u92 u93 u94 u95 u96 u97 u98 u99 u100 u101 u102 u103 u104 u105 u106 u107 u108 u109 u110 u111 u112 u113 u114 u115 u116 u117 u118 u119 u120 u121 u122 u123 u124 u125 u126 u127 u128 u129 u130 u131 u132 u133 u134 u135 u136 u137 u138
      repeat (first | clear u75 u76 u77 u78 u79 u80 u81 u82 u83 u84 u85 | revert u75 u76 u77 u78 u79 u80 u81 u82 u83 u84 u85)
      repeat revert ‹Act → World → Prop›
      repeat (first | clear ‹Exit → Act → World → Prop› | revert ‹Exit → Act → World → Prop›)
      first | clear w11 | revert w11
      revert w9 v9 err9 eb bc m av11 cv11 gh wr
      revert dmy
      exact hA.out⟩
end Go.Proofs.YbulkacdsFmt
