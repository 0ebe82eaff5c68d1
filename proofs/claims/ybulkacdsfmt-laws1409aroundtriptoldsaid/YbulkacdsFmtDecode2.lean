/- The decoder's methods by their contracts, more. -/
import Derived.Test.YbulkacdsFmtDecode
import Derived.Laws.BitsAllLaws
set_option linter.unusedVariables false
set_option linter.unusedSimpArgs false
namespace Go.Proofs.YbulkacdsFmt
open Go.RowKit Go.Extern.Stop Go.Stop Go.Extern

theorem notNil (w : World) (a : Option Addr) (n c : Nat) : (binOp .neq 22 (.slice a n c) (.slice none 0 0)).run Ybaf.prog w = .ok (.bool !a.isNone) w := run_neq_slice_nil_any w _ _ a n c _ _ Ybaf.underlying22

set_option maxHeartbeats 800000 in
theorem rd_u8 (w : World) (db g : Nat) (b : Int) (ys : List Value) (D : Dc w db g (.int .u8 b :: ys)) :
    Calls Ybaf.prog 20 #[.pointer (some ⟨db, 0, none⟩)] w fun e w' => e = .returned (.int .u8 b) ∧ Dc w' db g ys ∧ Only [db] w w' := by
  have HC : Hid _ := take_any w db g (.int .u8 b :: ys) 1 D (by simp)
  have qn := notNil
  clear D
  go_enter Ybaf.func20, Ybaf.ntmps20
  go_wp2_with fail
  refine Calls.mono HC.out ?_
  rintro e w1 ⟨⟨o, rfl, hr⟩, D1, O1⟩
  have c0 : w1.cell? ⟨g, o, none⟩ = some (.int .u8 b) := by simpa using hr 0 (by simp)
  have HE : Hid _ := And.intro D1 O1
  clear HC D1 O1 hr
  go_wp2
  go_ret
  exact ⟨rfl, by simpa using HE.out.1, HE.out.2⟩

set_option maxHeartbeats 800000 in
theorem rd_more (w : World) (db g : Nat) (ys : List Value) (D : Dc w db g ys) :
    Calls Ybaf.prog 19 #[.pointer (some ⟨db, 0, none⟩)] w fun e w' => e = .returned (.bool (decide (0 < ys.length))) ∧ w' = w := by
  obtain ⟨o, cap, h, -⟩ := D.ex
  obtain ⟨c0, c1, -⟩ := two_cells h
  clear h D
  go_enter Ybaf.func19, Ybaf.ntmps19
  go_wp2
  go_ret
  exact ⟨by simp, rfl⟩

set_option maxHeartbeats 800000 in
theorem rd_end (w : World) (db g : Nat) (D : Dc w db g []) :
    Calls Ybaf.prog 24 #[.pointer (some ⟨db, 0, none⟩)] w fun e w' => e = .returned .nilIface ∧ w' = w := by
  obtain ⟨o, cap, h, -⟩ := D.ex
  obtain ⟨c0, c1, -⟩ := two_cells h
  rw [List.length_nil] at c0
  clear h D
  go_enter Ybaf.func24, Ybaf.ntmps24
  go_wp2
  go_ret
  exact ⟨rfl, rfl⟩

set_option maxHeartbeats 800000 in
theorem rd_fail (w : World) (db g : Nat) (ys : List Value) (D : Dc w db g ys) :
    Calls Ybaf.prog 21 #[.pointer (some ⟨db, 0, none⟩), .nilIface] w fun e w' => e = .returned (.tuple #[]) ∧ Dc w' db g ys ∧ Only [db] w w' := by
  have hne := D.ne
  obtain ⟨o, cap, h, hl, hc, hr⟩ := D.ex
  obtain ⟨cur, hg⟩ := D.row
  obtain ⟨c0, c1, z0, z1⟩ := two_cells h
  have hs : (w.setCell ⟨db, 1, none⟩ .nilIface).heap[g]? = w.heap[g]? := Below.heap_setCell _ _ _ _ hne
  have HE : Hid (Dc (w.setCell ⟨db, 1, none⟩ .nilIface) db g ys ∧ Only [db] w (w.setCell ⟨db, 1, none⟩ .nilIface)) := ⟨⟨⟨o, cap, two_set1 h, hl, hc, hr.same hs⟩, cur, hs.trans hg⟩, (Only.refl _ w).setCell _ (by simp) _⟩
  clear h hl hc hr hg hs D
  go_enter Ybaf.func21, Ybaf.ntmps21
  go_wp2
  go_end0
  exact ⟨rfl, HE.out.1, HE.out.2⟩

set_option maxHeartbeats 800000 in
theorem rd_sub (w : World) (db g n : Nat) (ys : List Value) (D : Dc w db g ys) (hn : n ≤ ys.length) (hm : n ≤ maxLen) :
    Calls Ybaf.prog 29 #[.pointer (some ⟨db, 0, none⟩), .int .i64 n] w fun e w' => ∃ d2, e = .returned (.pointer (some ⟨d2, 0, none⟩)) ∧ w.heap.size ≤ d2 ∧ Dc w' d2 g (ys.take n) ∧ Dc w' db g (ys.drop n) ∧ Only [db] w w' := by
  have HC : Hid _ := take_any w db g ys n D hn
  clear D
  go_enter Ybaf.func29, Ybaf.ntmps29
  go_wp2_with fail
  refine Calls.mono HC.out ?_
  rintro e w1 ⟨⟨o, rfl, hr⟩, D1, O1⟩
  obtain ⟨o1, cap1, h1, -⟩ := D1.ex
  obtain ⟨-, c1, -⟩ := two_cells h1
  have HE : Hid (w.heap.size ≤ w1.heap.size ∧ Dc (w1.alloc (.cells #[.slice (some ⟨g, o, none⟩) n n, .nilIface] 41)) w1.heap.size g (ys.take n) ∧ Dc (w1.alloc (.cells #[.slice (some ⟨g, o, none⟩) n n, .nilIface] 41)) db g (ys.drop n) ∧ Only [db] w (w1.alloc (.cells #[.slice (some ⟨g, o, none⟩) n n, .nilIface] 41))) := by
    have b1 : Below w1.heap.size w1 (w1.alloc (.cells #[.slice (some ⟨g, o, none⟩) n n, .nilIface] 41)) := (Below.refl _ w1).alloc (Nat.le_refl _) _
    obtain ⟨cur, hg⟩ := D1.row
    have hg' := (Only.of (L := []) b1).at (by simp) hg
    have hlen : (ys.take n).length = n := by rw [List.length_take]; omega
    refine ⟨O1.size, ⟨⟨o, n, ?_, ?_, hm, hr.same (hg'.trans hg.symm)⟩, cur, hg'⟩, D1.keep (Only.of (L := []) b1) (by simp) (by simp), O1.trans (Only.of b1)⟩
    · rw [hlen]; exact heap_alloc_new w1 _
    · omega
  clear HC D1 O1 hr h1
  go_wp2
  go_ret
  exact ⟨_, rfl, HE.out.1, HE.out.2.1, HE.out.2.2.1, HE.out.2.2.2⟩
end Go.Proofs.YbulkacdsFmt
