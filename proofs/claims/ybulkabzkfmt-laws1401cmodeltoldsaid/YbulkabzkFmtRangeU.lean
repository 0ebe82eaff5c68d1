/- raiseRange, behind the cap. -/
import Derived.Test.YbulkabzkFmtRange
namespace Go.Proofs.YbulkabzkFmt
open Go.RowKit Go.Extern.Stop Go.Stop Go.Extern

theorem wrapD (F : Interp) (a : Addr) (t : ByteArray) (y : Int) (w : World) (hF : F.answers w.tape) (hs : w.cell? a = some (.string t)) :
    Calls Ybaf.prog 21 #[.string ⟨#[37, 119, 32, 111, 102, 32, 37, 100]⟩, .slice (some ⟨w.heap.size, 0, none⟩) 2 2]
      (w.alloc (.cells #[.iface 78 (.pointer (some a)), .iface 3 (.int .i64 y)] 20)) (ErrBack w) := by
  refine (errorf_wrap F a t y w.heap.size _ ?_ ?_ ?_ ?_).mono ?_
  · exact hF
  · exact newCell w _ _ _
  · exact newCell w _ _ _
  · exact cellLater ((Below.refl _ w).alloc (Nat.le_refl _) _) hs
  · rintro e w3 ⟨T, b, rfl, hb3⟩
    exact ⟨T, b, rfl, belA _ (Below.refl _ _) hb3⟩

theorem betD (F : Interp) (x : ByteArray) (w : World) (hF : F.answers w.tape) :
    Calls Ybaf.prog 21 #[.string ⟨#[37, 115, 32, 98, 101, 116, 116, 105, 110, 103, 32, 105, 115, 32, 110, 111, 116, 32, 115, 117, 112, 112, 111, 114, 116, 101, 100]⟩, .slice (some ⟨w.heap.size, 0, none⟩) 1 1]
      (w.alloc (.cells #[.iface 58 (.string x)] 20)) (ErrBack w) := by
  refine (errorf_bet F x w.heap.size _ ?_ ?_).mono ?_
  · exact hF
  · exact newCell w _ _ _
  · rintro e w3 ⟨T, b, rfl, hb3⟩
    exact ⟨T, b, rfl, belA _ (Below.refl _ _) hb3⟩

theorem stepBd {S : St} (O : S.Ok) : 0 ≤ S.step ∧ S.step ≤ 65535 := by
  have h1 := maxTo_bd (a := S.blinds 0) (b := 255) (f := S.blinds) (O.bl1 0 (by have := O.n2; omega)) S.n O.bl1
  have h2 := O.lr0
  have h3 := O.lr1
  have h4 := O.bl0 0 (by have := O.n2; omega)
  unfold St.step max3
  generalize maxTo (S.blinds 0) S.blinds S.n = M at *
  split <;> split <;> omega

set_option maxRecDepth 100000 in
set_option maxHeartbeats 800000 in
theorem range_allU (F : Interp) (w : World) (L : Loc) (S : St) (O : S.Ok) (H : HandAt w L S) (hd : S.dueB = false) (hc : S.capped = false) (hF : F.answers w.tape) (a1 : Addr) (s1 : ByteArray) (a2 : Addr) (V : VarsAt w a1 s1 a2) (hle : S.stacks S.actor ≤ S.largest) :
    Calls Ybaf.prog 30 #[.pointer (some ⟨L.h, 0, none⟩)] w (Ranged w false 0 0) := by
  have hh0 := H.h0
  have qT : ∀ (w : World) (a : Option Addr) (n c : Nat), (binOp .neq 53 (.slice a n c) (.slice none 0 0)).run Ybaf.prog w = .ok (.bool !a.isNone) w := fun w a n c => run_neq_slice_nil_any w _ _ a n c _ _ Ybaf.underlying53
  go_enter Ybaf.func30, Ybaf.ntmps30
  go_wp2_with fail
  refine (open_any w L S O H).mono ?_
  rw [hd]
  rintro e w1 ⟨rfl, hq⟩
  obtain ⟨H1, hb1⟩ := H.after hq
  clear hd hq hh0
  have hg8 := H1.g8f hc
  go_wp2_with fail
  go_quiet (fail)
  have H2 := H1.dN nq
  have hb2 := belT hb1 (bel_dN nq)
  generalize w1.drewN nq = w2 at H2 hb2 ⊢
  clear H1 hb1 hg8
  have hh12 := H2.h12
  go_wp2_with fail
  go_quiet (first
      | (go_at_call 44; exact Calls.quiet_of_same (largest_any _ L S O (H2.dN _)))
      | (go_at_call 45; exact Calls.quiet_of (stack_any _ L S O (H2.dN _) S.actor O.act)))
  have H3 := H2.dN nq
  have hb3 := belT hb2 (bel_dN nq)
  generalize w2.drewN nq = w3 at H3 hb3 ⊢
  clear H2 hb2 hh12
  have V3 := V.later hb3
  have hv6 := V3.v6
  have ht6 := V3.t6
  go_wp2_with fail
  refine (wrapD F a1 s1 _ w3 (ansB hb3 hF) ht6).mono ?_
  rintro e w4 ⟨T, b, rfl, hb4⟩
  go_wp2
  go_ret3
  exact ⟨_, rfl, eqNil_some _ _, belT hb3 hb4⟩

set_option maxRecDepth 100000 in
set_option maxHeartbeats 800000 in
theorem range_fewU (w : World) (L : Loc) (S : St) (O : S.Ok) (H : HandAt w L S) (hd : S.dueB = false) (hc : S.capped = false) (hle : ¬ S.stacks S.actor ≤ S.largest) (a1 : Addr) (s1 : ByteArray) (a2 : Addr) (V : VarsAt w a1 s1 a2) (hcan : S.can < 2) :
    Calls Ybaf.prog 30 #[.pointer (some ⟨L.h, 0, none⟩)] w (Ranged w false 0 0) := by
  have hh0 := H.h0
  have qT : ∀ (w : World) (a : Option Addr) (n c : Nat), (binOp .neq 53 (.slice a n c) (.slice none 0 0)).run Ybaf.prog w = .ok (.bool !a.isNone) w := fun w a n c => run_neq_slice_nil_any w _ _ a n c _ _ Ybaf.underlying53
  go_enter Ybaf.func30, Ybaf.ntmps30
  go_wp2_with fail
  refine (open_any w L S O H).mono ?_
  rw [hd]
  rintro e w1 ⟨rfl, hq⟩
  obtain ⟨H1, hb1⟩ := H.after hq
  clear hd hq hh0
  have hg8 := H1.g8f hc
  go_wp2_with fail
  go_quiet (fail)
  have H2 := H1.dN nq
  have hb2 := belT hb1 (bel_dN nq)
  generalize w1.drewN nq = w2 at H2 hb2 ⊢
  clear H1 hb1 hg8
  have hh12 := H2.h12
  go_wp2_with fail
  go_quiet (first
      | (go_at_call 44; exact Calls.quiet_of_same (largest_any _ L S O (H2.dN _)))
      | (go_at_call 45; exact Calls.quiet_of (stack_any _ L S O (H2.dN _) S.actor O.act)))
  have H3 := H2.dN nq
  have hb3 := belT hb2 (bel_dN nq)
  generalize w2.drewN nq = w3 at H3 hb3 ⊢
  clear H2 hb2 hh12
  go_wp2_with fail
  refine (canCount_any w3 L S O H3).mono ?_
  rintro e w4 ⟨rfl, hq⟩
  obtain ⟨H4, hb34⟩ := H3.after hq
  have hb4 := belT hb3 hb34
  clear hq H3 hb34
  have V4 := V.later hb4
  have hv7 := V4.v7
  go_wp2_with fail
  go_quiet (fail)
  go_wp2
  go_ret3
  exact ⟨_, rfl, eqNil_some _ _, belT hb4 (bel_dN nq)⟩

set_option maxRecDepth 100000 in
set_option maxHeartbeats 800000 in
theorem range_limU (w : World) (L : Loc) (S : St) (O : S.Ok) (H : HandAt w L S) (hd : S.dueB = false) (hc : S.capped = false) (hle : ¬ S.stacks S.actor ≤ S.largest) (hcan : ¬ S.can < 2) (hk : S.kind = 0) :
    Calls Ybaf.prog 30 #[.pointer (some ⟨L.h, 0, none⟩)] w (Ranged w true (addUp S.largest S.rsize S.stackA) (addUp S.largest S.rsize S.stackA)) := by
  have hh0 := H.h0
  have qT : ∀ (w : World) (a : Option Addr) (n c : Nat), (binOp .neq 53 (.slice a n c) (.slice none 0 0)).run Ybaf.prog w = .ok (.bool !a.isNone) w := fun w a n c => run_neq_slice_nil_any w _ _ a n c _ _ Ybaf.underlying53
  go_enter Ybaf.func30, Ybaf.ntmps30
  go_wp2_with fail
  refine (open_any w L S O H).mono ?_
  rw [hd]
  rintro e w1 ⟨rfl, hq⟩
  obtain ⟨H1, hb1⟩ := H.after hq
  clear hd hq hh0
  have hg8 := H1.g8f hc
  go_wp2_with fail
  go_quiet (fail)
  have H2 := H1.dN nq
  have hb2 := belT hb1 (bel_dN nq)
  generalize w1.drewN nq = w2 at H2 hb2 ⊢
  clear H1 hb1 hg8
  have hh12 := H2.h12
  go_wp2_with fail
  go_quiet (first
      | (go_at_call 44; exact Calls.quiet_of_same (largest_any _ L S O (H2.dN _)))
      | (go_at_call 45; exact Calls.quiet_of (stack_any _ L S O (H2.dN _) S.actor O.act)))
  have H3 := H2.dN nq
  have hb3 := belT hb2 (bel_dN nq)
  generalize w2.drewN nq = w3 at H3 hb3 ⊢
  clear H2 hb2 hh12
  go_wp2_with fail
  refine (canCount_any w3 L S O H3).mono ?_
  rintro e w4 ⟨rfl, hq⟩
  obtain ⟨H4, hb34⟩ := H3.after hq
  have hb4 := belT hb3 hb34
  clear hq H3 hb34
  have hg0 := H4.g0
  rw [hk, show betOf 0 = ⟨#[108, 105, 109, 105, 116]⟩ from rfl] at hg0
  have hg6 := H4.g6
  have hrs := H4.rs
  have hh6 := H4.h6
  clear hk
  go_wp2_with fail
  go_quiet ((go_at_call 46; exact Calls.quiet_of_same (addUp_any S.largest S.rsize S.stackA _ O.large.1 O.large.2 O.rsize0 (by have := O.rsize1; omega) O.stackA0.1 O.stackA0.2)))
  go_wp2
  go_ret3
  exact ⟨_, rfl, eqNil_nil, belT hb4 (bel_dN nq)⟩

set_option maxRecDepth 100000 in
set_option maxHeartbeats 800000 in
theorem range_nolU (w : World) (L : Loc) (S : St) (O : S.Ok) (H : HandAt w L S) (hd : S.dueB = false) (hc : S.capped = false) (hle : ¬ S.stacks S.actor ≤ S.largest) (hcan : ¬ S.can < 2) (hk : S.kind = 1) :
    Calls Ybaf.prog 30 #[.pointer (some ⟨L.h, 0, none⟩)] w (Ranged w true (addUp S.largest S.step S.stackA) S.stackA) := by
  have hh0 := H.h0
  have qT : ∀ (w : World) (a : Option Addr) (n c : Nat), (binOp .neq 53 (.slice a n c) (.slice none 0 0)).run Ybaf.prog w = .ok (.bool !a.isNone) w := fun w a n c => run_neq_slice_nil_any w _ _ a n c _ _ Ybaf.underlying53
  go_enter Ybaf.func30, Ybaf.ntmps30
  go_wp2_with fail
  refine (open_any w L S O H).mono ?_
  rw [hd]
  rintro e w1 ⟨rfl, hq⟩
  obtain ⟨H1, hb1⟩ := H.after hq
  clear hd hq hh0
  have hg8 := H1.g8f hc
  go_wp2_with fail
  go_quiet (fail)
  have H2 := H1.dN nq
  have hb2 := belT hb1 (bel_dN nq)
  generalize w1.drewN nq = w2 at H2 hb2 ⊢
  clear H1 hb1 hg8
  have hh12 := H2.h12
  go_wp2_with fail
  go_quiet (first
      | (go_at_call 44; exact Calls.quiet_of_same (largest_any _ L S O (H2.dN _)))
      | (go_at_call 45; exact Calls.quiet_of (stack_any _ L S O (H2.dN _) S.actor O.act)))
  have H3 := H2.dN nq
  have hb3 := belT hb2 (bel_dN nq)
  generalize w2.drewN nq = w3 at H3 hb3 ⊢
  clear H2 hb2 hh12
  go_wp2_with fail
  refine (canCount_any w3 L S O H3).mono ?_
  rintro e w4 ⟨rfl, hq⟩
  obtain ⟨H4, hb34⟩ := H3.after hq
  have hb4 := belT hb3 hb34
  clear hq H3 hb34
  have hg0 := H4.g0
  rw [hk, show betOf 1 = ⟨#[110, 111, 108, 105, 109, 105, 116]⟩ from rfl] at hg0
  have hg3 := H4.g3
  have hh10 := H4.h10
  clear hk
  go_wp2_with fail
  go_quiet ((go_at_call 48; exact Calls.quiet_of_same (max_any _ L.bbl S.n S.n S.blinds (by have := O.n2; omega) O.n8 (fun i hi => (H4.dN _).bli i hi))))
  generalize hst : (if (if 1 < maxTo (S.blinds 0) S.blinds S.n then maxTo (S.blinds 0) S.blinds S.n else 1) < S.lraise then S.lraise else if 1 < maxTo (S.blinds 0) S.blinds S.n then maxTo (S.blinds 0) S.blinds S.n else 1) = st
  have HS : Hid (st = S.step) := hst.symm
  clear hst
  have sb := stepBd O
  rw [← HS.out] at sb
  go_wp2_with fail
  refine (addUp_any S.largest st S.stackA _ O.large.1 O.large.2 sb.1 sb.2 O.stackA0.1 O.stackA0.2).mono ?_
  rintro e w5 ⟨rfl, rfl⟩
  go_wp2
  go_ret3
  rw [← HS.out]
  exact ⟨_, rfl, eqNil_nil, belT hb4 (bel_dN nq)⟩

set_option maxRecDepth 100000 in
set_option maxHeartbeats 800000 in
theorem range_potU (F : Interp) (w : World) (L : Loc) (S : St) (O : S.Ok) (H : HandAt w L S) (hd : S.dueB = false) (hc : S.capped = false) (hle : ¬ S.stacks S.actor ≤ S.largest) (hcan : ¬ S.can < 2) (hF : F.answers w.tape) (hk : ¬ S.kind ≤ 1) :
    Calls Ybaf.prog 30 #[.pointer (some ⟨L.h, 0, none⟩)] w (Ranged w false 0 0) := by
  have hh0 := H.h0
  have qT : ∀ (w : World) (a : Option Addr) (n c : Nat), (binOp .neq 53 (.slice a n c) (.slice none 0 0)).run Ybaf.prog w = .ok (.bool !a.isNone) w := fun w a n c => run_neq_slice_nil_any w _ _ a n c _ _ Ybaf.underlying53
  go_enter Ybaf.func30, Ybaf.ntmps30
  go_wp2_with fail
  refine (open_any w L S O H).mono ?_
  rw [hd]
  rintro e w1 ⟨rfl, hq⟩
  obtain ⟨H1, hb1⟩ := H.after hq
  clear hd hq hh0
  have hg8 := H1.g8f hc
  go_wp2_with fail
  go_quiet (fail)
  have H2 := H1.dN nq
  have hb2 := belT hb1 (bel_dN nq)
  generalize w1.drewN nq = w2 at H2 hb2 ⊢
  clear H1 hb1 hg8
  have hh12 := H2.h12
  go_wp2_with fail
  go_quiet (first
      | (go_at_call 44; exact Calls.quiet_of_same (largest_any _ L S O (H2.dN _)))
      | (go_at_call 45; exact Calls.quiet_of (stack_any _ L S O (H2.dN _) S.actor O.act)))
  have H3 := H2.dN nq
  have hb3 := belT hb2 (bel_dN nq)
  generalize w2.drewN nq = w3 at H3 hb3 ⊢
  clear H2 hb2 hh12
  go_wp2_with fail
  refine (canCount_any w3 L S O H3).mono ?_
  rintro e w4 ⟨rfl, hq⟩
  obtain ⟨H4, hb34⟩ := H3.after hq
  have hb4 := belT hb3 hb34
  clear hq H3 hb34
  have hg0 := H4.g0
  rw [show betOf S.kind = ⟨#[112, 111, 116]⟩ by unfold betOf; rw [if_neg (by omega), if_neg (by omega)]] at hg0
  clear hk
  go_wp2_with fail
  refine (betD F _ w4 (ansB hb4 hF)).mono ?_
  rintro e w5 ⟨T, b, rfl, hb5⟩
  go_wp2
  go_ret3
  exact ⟨_, rfl, eqNil_some _ _, belT hb4 hb5⟩

end Go.Proofs.YbulkabzkFmt
