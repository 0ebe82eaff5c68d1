/- raiseRange. -/
import Derived.Test.YbulkabzkFmtRefuse
import Derived.Deep.RegionWith
namespace Go.Proofs.YbulkabzkFmt
open Go.RowKit Go.Extern.Stop Go.Stop Go.Extern

/-- What the two sentinels hold. -/
structure VarsAt (w : World) (a1 : Addr) (s1 : ByteArray) (a2 : Addr) : Prop where
  v6 : w.cell? ⟨6, 0, none⟩ = some (.iface 78 (.pointer (some a1)))
  t6 : w.cell? a1 = some (.string s1)
  v7 : w.cell? ⟨7, 0, none⟩ = some (.iface 78 (.pointer (some a2)))

theorem VarsAt.later {w w' : World} {a1 : Addr} {s1 : ByteArray} {a2 : Addr} (V : VarsAt w a1 s1 a2) (hb : Below w.heap.size w w') : VarsAt w' a1 s1 a2 where
  v6 := cellLater hb V.v6
  t6 := cellLater hb V.t6
  v7 := cellLater hb V.v7

theorem belAD {w w1 w2 : World} (o : Obj) (h : Below w.heap.size w w1) (k : Below (w1.alloc o).drew.heap.size (w1.alloc o).drew w2) : Below w.heap.size w w2 :=
  ((h.alloc h.size o).drew).trans (k.mono (by have := h.size; simp; omega))

theorem capD (F : Interp) (x y : Int) (w : World) (hF : F.answers w.tape) :
    Calls Ybaf.prog 21 #[.string ⟨#[114, 97, 105, 115, 101, 32, 111, 118, 101, 114, 32, 116, 104, 101, 32, 99, 97, 112, 32, 111, 102, 32, 37, 100, 32, 114, 97, 105, 115, 101, 115, 32, 105, 110, 32, 114, 111, 117, 110, 100, 32, 37, 100]⟩, .slice (some ⟨w.heap.size, 0, none⟩) 2 2]
      (w.alloc (.cells #[.iface 3 (.int .i64 x), .iface 3 (.int .i64 y)] 20)).drew (ErrBack w) := by
  refine (errorf_cap F x y w.heap.size _ ?_ ?_ ?_).mono ?_
  · exact hF
  · exact newCell w _ _ _
  · exact newCell w _ _ _
  · rintro e w3 ⟨T, b, rfl, hb3⟩
    exact ⟨T, b, rfl, belAD _ (Below.refl _ _) hb3⟩

def Ranged (w : World) (b : Bool) (least most : Int) (e : Ending) (w' : World) : Prop :=
  ∃ r, e = .returned (.tuple #[.int .i64 least, .int .i64 most, r]) ∧ EqNil r b ∧ Below w.heap.size w w'

set_option maxHeartbeats 400000 in
theorem range_due (w : World) (L : Loc) (S : St) (O : S.Ok) (H : HandAt w L S) (hd : S.dueB = true) (hbd : 0 ≤ S.dueBet ∧ S.dueBet ≤ 255) :
    Calls Ybaf.prog 30 #[.pointer (some ⟨L.h, 0, none⟩)] w (Ranged w true (addUp S.roundBet S.dueBet S.stackA) (addUp S.roundBet S.dueBet S.stackA)) := by
  have hh0 := H.h0
  go_enter Ybaf.func30, Ybaf.ntmps30
  go_wp2_with fail
  refine (open_any w L S O H).mono ?_
  rw [hd]
  rintro e w1 ⟨rfl, hq⟩
  obtain ⟨H1, hb1⟩ := H.after hq
  clear hd hq hh0
  have hh9 := H1.h9
  have hh12 := H1.h12
  go_wp2_with fail
  go_quiet (first
    | (go_at_call 45; exact Calls.quiet_of (stack_any _ L S O (H1.dN _) S.actor O.act))
    | (go_at_call 46; exact Calls.quiet_of_same (addUp_any S.roundBet S.dueBet S.stackA _ O.rb0 O.rb1 hbd.1 (by omega) O.stackA0.1 O.stackA0.2)))
  go_wp2
  go_ret3
  exact ⟨_, rfl, eqNil_nil, belT hb1 (bel_dN nq)⟩

set_option maxRecDepth 100000 in
set_option maxHeartbeats 800000 in
theorem range_cap (F : Interp) (w : World) (L : Loc) (S : St) (O : S.Ok) (H : HandAt w L S) (hF : F.answers w.tape) (hd : S.dueB = false) (hc : S.capped = true) (hr : S.cap ≤ S.raises) :
    Calls Ybaf.prog 30 #[.pointer (some ⟨L.h, 0, none⟩)] w (Ranged w false 0 0) := by
  have hh0 := H.h0
  have qT : ∀ (w : World) (a : Option Addr) (n c : Nat), (binOp .neq 53 (.slice a n c) (.slice none 0 0)).run Ybaf.prog w = .ok (.bool !a.isNone) w := fun w a n c => run_neq_slice_nil_any w _ _ a n c _ _ Ybaf.underlying53
  go_enter Ybaf.func30, Ybaf.ntmps30
  go_wp2_with fail
  refine (open_any w L S O H).mono ?_
  rw [hd]
  rintro e w1 ⟨rfl, hq⟩
  obtain ⟨H1, hb1⟩ := H.after hq
  clear hd hq hh0
  have hh6 := H1.h6
  have hh7 := H1.h7
  have hg8 := H1.g8t hc
  have hcp := H1.cp hc
  have hdec : decide (S.cap ≤ S.raises) = true := by simpa using hr
  go_wp2_with fail
  go_quiet (fail)
  go_wp2_with fail
  have H2 := H1.dN nq
  have hb2 := belT hb1 (bel_dN nq)
  generalize w1.drewN nq = w2 at H2 hb2 ⊢
  clear hh6 hh7 hg8 hcp
  have hh6 := H2.h6
  have hg8 := H2.g8t hc
  have hcp := H2.cp hc
  go_region_with (go_at_call 21; refine (capD F S.cap 0 w2 (ansB hb2 hF)).mono ?_; rintro e w3 ⟨T, b, rfl, hb3⟩)
  all_goals
    go_wp2
    go_ret3
    exact ⟨_, rfl, eqNil_some _ _, belT hb2 hb3⟩

end Go.Proofs.YbulkabzkFmt
