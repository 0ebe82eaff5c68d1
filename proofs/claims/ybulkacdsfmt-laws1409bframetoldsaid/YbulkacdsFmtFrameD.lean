/- LawS1409BFrame: the walk, the end. -/
import Derived.Test.YbulkacdsFmtFrameC
import Derived.LaidEql
set_option linter.unusedVariables false
set_option linter.unusedSimpArgs false
namespace Go.Proofs.YbulkacdsFmt
open Go.RowKit Go.Extern.Stop Go.Stop Go.Extern

theorem all_bytes (f1 f2 : Nat → Int) (l1 l2 m size reps : Nat) : ∀ u ∈ cellsOf f1 l1 ++ (hdr m size ++ repl (cellsOf f2 l2) reps), ∃ q, u = .int .u8 q := by
  have hc : ∀ (f : Nat → Int) (l : Nat), ∀ u ∈ cellsOf f l, ∃ q, u = .int .u8 q := fun f l u hu => by
    simp only [cellsOf, List.mem_map] at hu
    obtain ⟨j, _, rfl⟩ := hu
    exact ⟨_, rfl⟩
  have hr : ∀ k, ∀ u ∈ repl (cellsOf f2 l2) k, ∃ q, u = .int .u8 q := fun k => by
    induction k with
    | zero => intro u hu; simp [repl] at hu
    | succ k ih =>
      intro u hu
      rw [repl, List.mem_append] at hu
      exact hu.elim (ih u) (hc f2 l2 u)
  intro u hu
  rw [List.mem_append, List.mem_append] at hu
  rcases hu with hu | hu | hu
  · exact hc f1 l1 u hu
  · rw [hdr_cells] at hu; exact hc _ _ u hu
  · exact hr reps u hu

theorem own_mono {w : World} {B B' n : Nat} {v : Value} {xs : List Value} (ho : w.ownsRow B 5 1 v n xs) (h : B' ≤ B) : w.ownsRow B' 5 1 v n xs := by
  obtain ⟨h1, h2⟩ := ho
  refine ⟨h1, ?_⟩
  rcases h2 with h2 | ⟨g, cap, cur, hv, hg, r⟩
  · exact .inl h2
  · exact .inr ⟨g, cap, cur, hv, Nat.le_trans h hg, r⟩

theorem lim_step (k : Nat) : IntKind.u64.wrap (((lim k : Nat) : Int) * 256) = ((lim (k + 1) : Nat) : Int) := by
  rw [IntKind.wrap_u64]
  unfold lim
  rw [Nat.pow_succ]
  omega

set_option maxRecDepth 100000 in
theorem i60 : ∃ i, Ybaf.prog.info? 60 = some i ∧ i.comparable = true := ⟨_, (by kernel_rfl : _ = some Ybaf.t60), by kernel_rfl⟩

set_option maxRecDepth 100000 in
theorem i62 : ∃ i, Ybaf.prog.info? 62 = some i := ⟨_, (by kernel_rfl : _ = some Ybaf.t62)⟩
theorem eqIface (b : Addr) (w : World) : (binOp .eql 33 (.iface 60 (.pointer (some b))) (.iface 60 (.pointer (some b)))).run Ybaf.prog w = .ok (.bool true) w := by
  obtain ⟨i, hi, hc⟩ := i60
  obtain ⟨j, hj⟩ := i62
  exact run_eql_iface_ptr_same w b Ybaf.underlying33 Ybaf.underlying60 hi hc hj

set_option maxRecDepth 100000 in
set_option maxHeartbeats 4000000 in
theorem frmD (F : Interp) (w : World) (a1 : Option Addr) (b1 o1 l1 c1 : Nat) (f1 : Nat → Int) (a2 : Option Addr) (b2 o2 l2 c2 : Nat) (f2 : Nat → Int) (sel rep : Int) (hasErr : Bool) (size reps : Nat)
    (hF : F.answers w.tape) (h1 : (l1 : Int) ≤ 1024) (h2 : (l2 : Int) ≤ 1024) (hs0 : 0 ≤ sel) (hs1 : sel ≤ 255) (hr0 : 0 ≤ rep) (hr1 : rep ≤ 255) (hs : sel % 9 = (size : Int)) (hr : rep % 8 + 1 = (reps : Int))
    (D1 : Hid (Bytes w a1 b1 o1 l1 f1)) (D2 : Hid (Bytes w a2 b2 o2 l2 f2)) (n1 : Hid (a1 = none → c1 = 0)) (n2 : Hid (a2 = none → c2 = 0)) (t1 : Hid (∀ i, i < l1 → b1 < w.heap.size)) (t2 : Hid (∀ i, i < l2 → b2 < w.heap.size)) : (frmC F w a1 b1 o1 l1 c1 f1 a2 b2 o2 l2 c2 f2 sel rep hasErr size reps hF h1 h2 hs0 hs1 hr0 hr1 hs hr D1 D2 n1 n2 t1 t2).1 := by
  intro dmy
  set_option tactic.hygienic false in intros
  obtain ⟨D9, B0, ho0, hm⟩ := HW.out
  have D := D9.later B0
  have hoE := D.ho
  rw [← hm] at hoE
  have HBq : Hid _ := beq_own wr hoE (own_mono ho0 D9.N) (all_bytes f1 f2 l1 l2 m size reps) (by omega)
  obtain ⟨aw, cw, rfl, hmw⟩ := own_form ho0
  obtain ⟨a9, c9, rfl, hm9⟩ := own_form hoE
  have cs := cell_of_one D.rest.hs
  have cc : wr.cell? ⟨bc, 0, none⟩ = some (.int .i64 1) := by simpa using cell_of_one D.hc
  have ct1 := cell_of_one D.rest.hs1
  have ct2 := cell_of_one D.rest.hs2
  have cv := cell_of_one D.rest.hv
  have ce0 := (two_cells D.he).1
  have ce1 := (two_cells D.he).2.1
  have HD : Hid _ := D
  have Hm : Hid _ := hm
  clear HW D9 B0 ho0 hm hoE D
  go_wp2_with fail
  go_loop [24, 25] (fun x i => ∃ k : Nat, k ≤ size ∧ i = .int .i64 k ∧ x = .int .u64 (lim k : Nat)) (fun _ i => size - (intOf i).toNat)
  case atStart => exact ⟨0, Nat.zero_le _, rfl, rfl⟩
  case round =>
    obtain ⟨k, hk, rfl, rfl⟩ := hrel
    by_cases hlt : k < size
    · have hl := lim_step k
      clear HBq HD Hm
      go_wp2
      exact ⟨⟨k + 1, by omega, by go_num, rfl⟩, by simp [intOf]; omega⟩
    · obtain rfl : size = k := by omega
      go_wp2_with fail
      refine Calls.mono HBq.out ?_
      rintro e w13 ⟨rfl, q, rfl⟩
      have bel : Hid (Below w.heap.size w (wr.drewN q)) := HD.out.B.trans (bel_dN q)
      have errs := HD.out.errs
      rw [← Hm.out] at errs
      have early := HD.out.early
      clear HBq HD Hm hmw hm9
      rcases early with ⟨rfl, rfl⟩ | ⟨rfl, b, rfl⟩
      · by_cases hfit : m < lim size
        · have h9 := errs.1 hfit
          subst h9
          clear errs
          have hdec : decide (m < lim size) = true := by simpa using hfit
          go_wp2
          go_ret
          exact ⟨rfl, bel.out⟩
        · obtain ⟨b, h9⟩ := errs.2.1 hfit rfl
          subst h9
          clear errs
          have hdec : decide (m < lim size) = false := by simpa using hfit
          go_wp2
          go_ret
          exact ⟨rfl, bel.out⟩
      · have h9 : err9 = .iface 60 (.pointer (some b)) := by
          by_cases hfit : m < lim size
          · exact errs.1 hfit
          · exact errs.2.2 hfit _ _ rfl
        subst h9
        clear errs
        have qe := fun (wx : World) => eqIface b wx
        go_wp2
        go_ret
        exact ⟨rfl, bel.out⟩
end Go.Proofs.YbulkacdsFmt
