/- The methods of a hand that only read. -/
import Derived.Test.YbulkabzkFmtRows
import Derived.Test.YbulkabzkFmtPlain
import Derived.WalkKit
import Derived.WalkSpells
import Derived.WalkLawsBesides
import Derived.BigQuiet
namespace Go.Proofs.YbulkabzkFmt
open Go.RowKit

/-- What a reading method leaves: it may have drawn. -/
theorem quietMono {P : Program} {f : FuncId} {args : Array Value} {w : World} {v v' : Value} (hv : v = v')
    (h : Calls P f args w fun e w' => e = .returned v ∧ ∃ m, w' = w.drewN m) : Calls P f args w fun e w' => e = .returned v' ∧ ∃ m, w' = w.drewN m := hv ▸ h

theorem ret_int {k : IntKind} {a b : Int} (h : a = b) : Ending.returned (.int k a) = .returned (.int k b) := by rw [h]

theorem HandAt.dN {w : World} {L : Loc} {S : St} (H : HandAt w L S) (n : Nat) : HandAt (w.drewN n) L S := H.later (below_drewN (Below.refl _ _) n)

/-- The most that a position can hold. -/
def mstk (n : Nat) : Int := 9007199254740992 / n
theorem mstk_bd {n : Nat} (h2 : 2 ≤ n) (h8 : n ≤ 8) : 65535 ≤ mstk n ∧ mstk n ≤ 4503599627370496 := by
  unfold mstk
  match n, h2, h8 with
  | 2, _, _ => decide
  | 3, _, _ => decide
  | 4, _, _ => decide
  | 5, _, _ => decide
  | 6, _, _ => decide
  | 7, _, _ => decide
  | 8, _, _ => decide

set_option maxHeartbeats 400000 in
theorem maxStack_any (w : World) (L : Loc) (S : St) (O : S.Ok) (H : HandAt w L S) :
    Calls Ybaf.prog 25 #[.pointer (some ⟨L.g, 0, none⟩)] w fun e w' => e = .returned (.int .i64 (mstk S.n)) ∧ w' = w := by
  have hg1 := H.g1
  have h2 := O.n2
  have h8 := O.n8
  clear H O
  have hn : ((S.n : Int) == 0) = false := by rw [beq_eq_false_iff_ne]; omega
  go_enter Ybaf.func25, Ybaf.ntmps25
  go_wp2
  go_ret
  exact ⟨rfl, rfl⟩

set_option maxHeartbeats 400000 in
theorem stackOf_any (w : World) (L : Loc) (S : St) (O : S.Ok) (H : HandAt w L S) (p : Nat) (hp : p < S.n) :
    Calls Ybaf.prog 12 #[.pointer (some ⟨L.g, 0, none⟩), .int .i64 p] w fun e w' => e = .returned (.int .i64 (S.stacks p)) ∧ ∃ m, w' = w.drewN m := by
  have hg1 := H.g1
  have hg14 := H.g14
  have hs := H.sti p hp
  have h2 := O.n2
  have h8 := O.n8
  have hk := O.stk1 p hp
  have hm := (mstk_bd h2 h8).1
  have qT : ∀ (w : World) (a : Option Addr) (n c : Nat), (binOp .eql 53 (.slice a n c) (.slice none 0 0)).run Ybaf.prog w = .ok (.bool a.isNone) w := fun w a n c => Lib.run_eql_slice_nil w _ _ a n c _ _ Ybaf.underlying53
  go_enter Ybaf.func12, Ybaf.ntmps12
  go_wp2_with fail
  go_quiet ((go_at_call 25; exact Calls.quiet_of_same (maxStack_any _ L S O (H.dN _))))

  go_wp2

  go_ret
  exact ⟨rfl, nq, rfl⟩

set_option maxHeartbeats 400000 in
theorem stack_any (w : World) (L : Loc) (S : St) (O : S.Ok) (H : HandAt w L S) (p : Nat) (hp : p < S.n) :
    Calls Ybaf.prog 45 #[.pointer (some ⟨L.h, 0, none⟩), .int .i64 p] w fun e w' => e = .returned (.int .i64 (S.stacks p)) ∧ ∃ m, w' = w.drewN m := by
  have hh0 := H.h0
  go_enter Ybaf.func45, Ybaf.ntmps45
  go_wp2_with fail
  refine (stackOf_any w L S O H p hp).mono ?_
  rintro e w1 ⟨rfl, m, rfl⟩
  go_wp2
  go_ret
  exact ⟨rfl, m, rfl⟩

set_option maxHeartbeats 400000 in
theorem largest_any (w : World) (L : Loc) (S : St) (O : S.Ok) (H : HandAt w L S) :
    Calls Ybaf.prog 44 #[.pointer (some ⟨L.h, 0, none⟩)] w fun e w' => e = .returned (.int .i64 S.largest) ∧ w' = w := by
  have hh3 := H.h3
  have h8 := O.n8
  go_enter Ybaf.func44, Ybaf.ntmps44
  go_wp2
  go_loop [3, 11] (fun x i => ∃ k : Nat, k ≤ S.n ∧ i = .int .i64 k ∧ x = .int .i64 (maxTo 0 S.spent k)) (fun _ i => S.n - (intOf i).toNat)
  case atStart => exact ⟨0, Nat.zero_le _, rfl, rfl⟩
  case round =>
    obtain ⟨k, hk, rfl, rfl⟩ := hrel
    by_cases hlt : k < S.n
    · have hs := H.spi k hlt
      go_wp2
      exact ⟨⟨k + 1, by omega, by go_num, rfl⟩, by simp [intOf]; omega⟩
    · go_wp2
      go_ret
      obtain rfl : k = S.n := by omega
      exact ⟨rfl, rfl⟩

set_option maxHeartbeats 400000 in
theorem open_due (w : World) (L : Loc) (S : St) (O : S.Ok) (H : HandAt w L S) (ho : S.opn = true) (hd : S.opened < S.nops) :
    Calls Ybaf.prog 29 #[.pointer (some ⟨L.h, 0, none⟩)] w fun e w' => e = .returned (.tuple #[.int .i64 (S.ops S.opened), .bool true]) ∧ ∃ m, w' = w.drewN m := by
  have hh0 := H.h0
  have hh6 := H.h6
  have hh8 := H.h8
  have hg5 := H.g5t ho
  have hop := H.op0 ho
  have hop1 := H.opi ho S.opened hd
  have h4 := O.nops4
  have qT : ∀ (w : World) (a : Option Addr) (n c : Nat), (binOp .eql 59 (.slice a n c) (.slice none 0 0)).run Ybaf.prog w = .ok (.bool a.isNone) w := fun w a n c => Lib.run_eql_slice_nil w _ _ a n c _ _ Ybaf.underlying59
  clear H O ho
  go_enter Ybaf.func29, Ybaf.ntmps29
  go_wp2_with fail
  go_quiet (fail)
  go_wp2_with fail
  go_quiet (fail)
  go_wp2
  go_ret2
  exact ⟨rfl, _, by rw [World.drewN_drewN]⟩

set_option maxHeartbeats 400000 in
theorem open_past (w : World) (L : Loc) (S : St) (O : S.Ok) (H : HandAt w L S) (ho : S.opn = true) (hd : S.nops ≤ S.opened) :
    Calls Ybaf.prog 29 #[.pointer (some ⟨L.h, 0, none⟩)] w fun e w' => e = .returned (.tuple #[.int .i64 0, .bool false]) ∧ ∃ m, w' = w.drewN m := by
  have hh0 := H.h0
  have hh6 := H.h6
  have hh8 := H.h8
  have hg5 := H.g5t ho
  have hop := H.op0 ho
  have h4 := O.nops4
  have qT : ∀ (w : World) (a : Option Addr) (n c : Nat), (binOp .eql 59 (.slice a n c) (.slice none 0 0)).run Ybaf.prog w = .ok (.bool a.isNone) w := fun w a n c => Lib.run_eql_slice_nil w _ _ a n c _ _ Ybaf.underlying59
  clear H O ho
  go_enter Ybaf.func29, Ybaf.ntmps29
  go_wp2_with fail
  go_quiet (fail)
  go_wp2
  go_ret2
  exact ⟨rfl, _, rfl⟩

set_option maxHeartbeats 400000 in
theorem open_none (w : World) (L : Loc) (S : St) (H : HandAt w L S) (ho : S.opn = false) :
    Calls Ybaf.prog 29 #[.pointer (some ⟨L.h, 0, none⟩)] w fun e w' => e = .returned (.tuple #[.int .i64 0, .bool false]) ∧ ∃ m, w' = w.drewN m := by
  have hh0 := H.h0
  have hg5 := H.g5f ho
  have qT : ∀ (w : World) (a : Option Addr) (n c : Nat), (binOp .eql 59 (.slice a n c) (.slice none 0 0)).run Ybaf.prog w = .ok (.bool a.isNone) w := fun w a n c => Lib.run_eql_slice_nil w _ _ a n c _ _ Ybaf.underlying59
  clear H ho
  go_enter Ybaf.func29, Ybaf.ntmps29
  go_wp2_with fail
  go_quiet (fail)
  go_wp2
  go_ret2
  exact ⟨rfl, _, rfl⟩

set_option maxHeartbeats 400000 in
theorem callTo_any (w : World) (L : Loc) (S : St) (O : S.Ok) (H : HandAt w L S) :
    Calls Ybaf.prog 27 #[.pointer (some ⟨L.h, 0, none⟩)] w fun e w' => e = .returned (.int .i64 S.callTo) ∧ ∃ m, w' = w.drewN m := by
  have hh12 := H.h12
  go_enter Ybaf.func27, Ybaf.ntmps27
  go_wp2_with fail
  go_quiet (first
      | (go_at_call 44; exact Calls.quiet_of_same (largest_any _ L S O (H.dN _)))
      | (go_at_call 45; exact Calls.quiet_of (stack_any _ L S O (H.dN _) S.actor O.act)))
  go_wp2
  all_goals
    go_ret
    refine ⟨ret_int ?_, _, rfl⟩
    rw [St.callTo]
    first | rw [if_pos (by omega)] | rw [if_neg (by omega)]

set_option maxHeartbeats 400000 in
theorem canAct_any (w : World) (L : Loc) (S : St) (O : S.Ok) (H : HandAt w L S) (p : Nat) (hp : p < S.n) :
    Calls Ybaf.prog 58 #[.pointer (some ⟨L.h, 0, none⟩), .int .i64 p] w fun e w' => e = .returned (.bool (canActB S p)) ∧ ∃ m, w' = w.drewN m := by
  have hh3 := H.h3
  have hh4 := H.h4
  have hs := H.spi p hp
  have hf := H.foi p hp
  have h8 := O.n8
  cases hfp : S.folded p
  · rw [hfp] at hf
    refine quietMono (v := .bool (decide (S.spent p < S.stacks p))) (by simp [canActB, hfp]) ?_
    clear hfp
    go_enter Ybaf.func58, Ybaf.ntmps58
    go_wp2_with fail
    go_quiet ((go_at_call 45; exact Calls.quiet_of (stack_any _ L S O (H.dN _) p hp)))
    go_wp2
    go_ret
    exact ⟨rfl, _, rfl⟩
  · rw [hfp] at hf
    refine quietMono (v := .bool false) (by simp [canActB, hfp]) ?_
    clear hfp
    go_enter Ybaf.func58, Ybaf.ntmps58
    go_wp2_with fail
    go_quiet (fail)
    go_wp2
    go_ret
    exact ⟨rfl, _, rfl⟩

set_option maxHeartbeats 400000 in
theorem canCount_any (w : World) (L : Loc) (S : St) (O : S.Ok) (H : HandAt w L S) :
    Calls Ybaf.prog 47 #[.pointer (some ⟨L.h, 0, none⟩)] w fun e w' => e = .returned (.int .i64 S.can) ∧ ∃ m, w' = w.drewN m := by
  have hh3 := H.h3
  have h8 := O.n8
  go_enter Ybaf.func47, Ybaf.ntmps47
  go_wp2
  go_loopw [3, 10] (fun x i wr => ∃ k m : Nat, k ≤ S.n ∧ i = .int .i64 k ∧ x = .int .i64 (cntTo S k) ∧ wr = w.drewN m) (fun _ i _ => S.n - (intOf i).toNat)
  case atStart => exact ⟨0, 0, Nat.zero_le _, rfl, rfl, rfl⟩
  case round =>
    obtain ⟨k, m, hk, rfl, rfl, rfl⟩ := hrel
    have hcn := cntTo_le S k
    by_cases hlt : k < S.n
    · go_wp2_with fail
      refine (canAct_any _ L S O (H.dN _) k hlt).mono ?_
      rintro e w1 ⟨rfl, m1, rfl⟩
      cases hc : canActB S k
      · go_wp2
        exact ⟨⟨k + 1, m + m1, by omega, by go_num, by simp [cntTo, hc], rfl⟩, by simp [intOf]; omega⟩
      · go_wp2
        exact ⟨⟨k + 1, m + m1, by omega, by go_num, by simp [cntTo, hc], rfl⟩, by simp [intOf]; omega⟩
    · go_wp2
      go_ret
      obtain rfl : k = S.n := by omega
      exact ⟨rfl, _, rfl⟩

set_option maxHeartbeats 400000 in
theorem max_any (w : World) (b n c : Nat) (f : Nat → Int) (h1 : 1 ≤ n) (h8 : n ≤ 8) (hc : ∀ i, i < n → w.cell? ⟨b, i, none⟩ = some (.int .i64 (f i))) :
    Calls Ybaf.prog 48 #[.slice (some ⟨b, 0, none⟩) n c] w fun e w' => e = .returned (.int .i64 (maxTo (f 0) f n)) ∧ w' = w := by
  have hc0 := hc 0 (by omega)
  go_enter Ybaf.func48, Ybaf.ntmps48
  go_wp2
  go_loop [3, 4] (fun x i => ∃ k : Nat, 1 ≤ k ∧ k ≤ n ∧ i = .int .i64 k ∧ x = .int .i64 (maxTo (f 0) f k)) (fun _ i => n - (intOf i).toNat)
  case atStart => exact ⟨1, by omega, h1, rfl, by simp [maxTo]⟩
  case round =>
    obtain ⟨k, hk1, hk, rfl, rfl⟩ := hrel
    by_cases hlt : k < n
    · have hs := hc k hlt
      go_wp2
      exact ⟨⟨k + 1, by omega, by omega, by go_num, rfl⟩, by simp [intOf]; omega⟩
    · go_wp2
      go_ret
      obtain rfl : k = n := by omega
      exact ⟨rfl, rfl⟩

set_option maxHeartbeats 400000 in
theorem addUp_any (a b m : Int) (w : World) (ha : 0 ≤ a) (ha1 : a ≤ 65535) (hb : 0 ≤ b) (hb1 : b ≤ 65535) (hm : 0 ≤ m) (hm1 : m ≤ 65535) :
    Calls Ybaf.prog 46 #[.int .i64 a, .int .i64 b, .int .i64 m] w fun e w' => e = .returned (.int .i64 (addUp a b m)) ∧ w' = w := by
  by_cases h : m - a ≤ b
  · rw [addUp, if_pos h]
    go_enter Ybaf.func46, Ybaf.ntmps46
    go_wp2
    go_ret
    exact ⟨rfl, rfl⟩
  · rw [addUp, if_neg h]
    go_enter Ybaf.func46, Ybaf.ntmps46
    go_wp2
    go_ret
    exact ⟨rfl, rfl⟩

end Go.Proofs.YbulkabzkFmt
