/- zzs1409beq: equal rows give true. -/
import Derived.Test.YbulkacdsFmtBlock
namespace Go.Proofs.YbulkacdsFmt
open Go.RowKit

set_option maxHeartbeats 800000 in
theorem beq_any (w : World) (g h n c d : Nat) (xs : List Value) (f : Nat → Int) (hn : n ≤ 100000)
    (hx : ∀ j, j < n → xs[j]? = some (.int .u8 (f j))) (h1 : ∀ j, j < n → w.cell? ⟨g, j, none⟩ = xs[j]?) (h2 : ∀ j, j < n → w.cell? ⟨h, j, none⟩ = xs[j]?) :
    Calls Ybaf.prog 13 #[.slice (some ⟨g, 0, none⟩) n c, .slice (some ⟨h, 0, none⟩) n d] w fun e w' => e = .returned (.bool true) ∧ ∃ m, w' = w.drewN m := by
  have H : Hid _ := And.intro hx (And.intro h1 h2)
  clear hx h1 h2
  go_enter Ybaf.func13, Ybaf.ntmps13
  go_wp2_with fail
  go_loopw [5] (fun i wr => ∃ k : Nat, k ≤ n ∧ i = .int .i64 k ∧ ∃ m, wr = w.drewN m) (fun i _ => n - (intOf i).toNat)
  case atStart => exact ⟨0, Nat.zero_le _, rfl, 0, rfl⟩
  case round =>
    obtain ⟨k, hk, rfl, m, rfl⟩ := hrel
    by_cases hlt : k < n
    · obtain ⟨hx, h1, h2⟩ := H.out
      have c1 := (h1 k hlt).trans (hx k hlt)
      have c2 := (h2 k hlt).trans (hx k hlt)
      clear hx h1 h2
      go_wp2_with fail
      go_quiet (fail)
      go_wp2
      exact ⟨⟨k + 1, by omega, by go_num, m + nq, rfl⟩, by simp [intOf]; omega⟩
    · go_wp2
      go_ret
      exact ⟨rfl, m, rfl⟩

set_option maxHeartbeats 800000 in
theorem beq_nil (w : World) (a b : Option Addr) (c d : Nat) :
    Calls Ybaf.prog 13 #[.slice a 0 c, .slice b 0 d] w fun e w' => e = .returned (.bool true) ∧ ∃ m, w' = w.drewN m := by
  go_enter Ybaf.func13, Ybaf.ntmps13
  go_wp2_with fail
  refine wp_loop_rounds 1 ?_
  rw [rounds_succ]
  go_wp2
  go_ret
  exact ⟨rfl, 0, rfl⟩

/-- Two owned rows of the same bytes. -/
theorem beq_own (w : World) {N n : Nat} {v v' : Value} {xs : List Value} (ho : w.ownsRow N 5 1 v n xs) (ho' : w.ownsRow N 5 1 v' n xs) (hb : ∀ u ∈ xs, ∃ q, u = .int .u8 q) (hn : n ≤ 100000) :
    Calls Ybaf.prog 13 #[v, v'] w fun e w' => e = .returned (.bool true) ∧ ∃ m, w' = w.drewN m := by
  rcases Nat.eq_zero_or_pos n with rfl | h0
  · obtain ⟨a, c, rfl, _⟩ := own_form ho
    obtain ⟨b, d, rfl, _⟩ := own_form ho'
    exact beq_nil w a b c d
  · obtain ⟨g, c, rfl⟩ := own_some ho h0
    obtain ⟨h, d, rfl⟩ := own_some ho' h0
    have hl := ho.1
    refine beq_any w g h n c d xs (fun j => intOf (xs[j]?.getD (.int .u8 0))) hn (fun j hj => ?_) (fun j hj => ho.cellAt j (by omega)) (fun j hj => ho'.cellAt j (by omega))
    obtain ⟨q, hq⟩ := hb xs[j] (List.getElem_mem (by omega))
    rw [List.getElem?_eq_getElem (by omega), hq]
    rfl
end Go.Proofs.YbulkacdsFmt
