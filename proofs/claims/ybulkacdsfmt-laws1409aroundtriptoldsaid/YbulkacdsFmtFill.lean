/- The closure that LawS1409BFrame hands to block, by its contract. -/
import Derived.Test.YbulkacdsFmtWalks
import Derived.BigQuiet
import Derived.Deep.Cut
import Derived.Deep.CutRange
import Derived.Deep.RegionLaw
import Derived.Lib.Builder
namespace Go.Proofs.YbulkacdsFmt
open Go.RowKit

/-- xs, k times. -/
def repl (xs : List Value) : Nat → List Value
  | 0 => []
  | k + 1 => repl xs k ++ xs
theorem repl_length (xs : List Value) : ∀ k, (repl xs k).length = k * xs.length
  | 0 => by simp [repl]
  | k + 1 => by rw [repl, List.length_append, repl_length xs k, Nat.succ_mul]

/-- What the closure has captured lies there. -/
structure Env (w : World) (eb bc bv s1 bp bs s2 br bd : Nat) (pv dv : Value) (size reps calls : Nat) : Prop where
  hv : w.heap[bv]? = some (.cells #[.pointer (some ⟨eb, 0, none⟩)] 31 (0, 0))
  hs1 : w.heap[s1]? = some (.cells #[.bool true] 4 (0, 0))
  hp : w.heap[bp]? = some (.cells #[pv] 22 (0, 0))
  hs : w.heap[bs]? = some (.cells #[.int .i64 size] 3 (0, 0))
  hs2 : w.heap[s2]? = some (.cells #[.bool true] 4 (0, 0))
  hr : w.heap[br]? = some (.cells #[.int .i64 reps] 3 (0, 0))
  hd : w.heap[bd]? = some (.cells #[dv] 22 (0, 0))
  hc : w.heap[bc]? = some (.cells #[.int .i64 calls] 3 (0, 0))
  ne1 : bs ≠ bc
  ne2 : br ≠ bc

theorem ne_ty {w : World} {j k : Nat} {cs ds : Array Value} {t u : TypeId} (h : w.heap[j]? = some (.cells cs t (0, 0))) (h' : w.heap[k]? = some (.cells ds u (0, 0))) (ht : t ≠ u) : j ≠ k := fun e => by
  subst e
  rw [h] at h'
  simp at h'
  exact ht h'.2

/-- All that is captured, but for the counter. -/
structure Rest (w : World) (eb bv s1 bp bs s2 br bd : Nat) (pv dv : Value) (size reps : Nat) : Prop where
  hv : w.heap[bv]? = some (.cells #[.pointer (some ⟨eb, 0, none⟩)] 31 (0, 0))
  hs1 : w.heap[s1]? = some (.cells #[.bool true] 4 (0, 0))
  hp : w.heap[bp]? = some (.cells #[pv] 22 (0, 0))
  hs : w.heap[bs]? = some (.cells #[.int .i64 size] 3 (0, 0))
  hs2 : w.heap[s2]? = some (.cells #[.bool true] 4 (0, 0))
  hr : w.heap[br]? = some (.cells #[.int .i64 reps] 3 (0, 0))
  hd : w.heap[bd]? = some (.cells #[dv] 22 (0, 0))

theorem Env.rest {w w' : World} {eb bc bv s1 bp bs s2 br bd : Nat} {pv dv : Value} {size reps calls : Nat} {v err : Value} (E : Env w eb bc bv s1 bp bs s2 br bd pv dv size reps calls) (he : w.heap[eb]? = some (.cells #[v, err] 35 (0, 0))) (O : Other [eb, bc] w w') :
    Rest w' eb bv s1 bp bs s2 br bd pv dv size reps where
  hv := O _ _ _ (by decide) (by simp only [List.mem_cons, List.not_mem_nil, or_false, not_or]; exact ⟨ne_ty E.hv he (by decide), ne_ty E.hv E.hc (by decide)⟩) E.hv
  hs1 := O _ _ _ (by decide) (by simp only [List.mem_cons, List.not_mem_nil, or_false, not_or]; exact ⟨ne_ty E.hs1 he (by decide), ne_ty E.hs1 E.hc (by decide)⟩) E.hs1
  hp := O _ _ _ (by decide) (by simp only [List.mem_cons, List.not_mem_nil, or_false, not_or]; exact ⟨ne_ty E.hp he (by decide), ne_ty E.hp E.hc (by decide)⟩) E.hp
  hs := O _ _ _ (by decide) (by simp only [List.mem_cons, List.not_mem_nil, or_false, not_or]; exact ⟨ne_ty E.hs he (by decide), E.ne1⟩) E.hs
  hs2 := O _ _ _ (by decide) (by simp only [List.mem_cons, List.not_mem_nil, or_false, not_or]; exact ⟨ne_ty E.hs2 he (by decide), ne_ty E.hs2 E.hc (by decide)⟩) E.hs2
  hr := O _ _ _ (by decide) (by simp only [List.mem_cons, List.not_mem_nil, or_false, not_or]; exact ⟨ne_ty E.hr he (by decide), E.ne2⟩) E.hr
  hd := O _ _ _ (by decide) (by simp only [List.mem_cons, List.not_mem_nil, or_false, not_or]; exact ⟨ne_ty E.hd he (by decide), ne_ty E.hd E.hc (by decide)⟩) E.hd

theorem own_form {w : World} {B n : Nat} {v : Value} {xs : List Value} (ho : w.ownsRow B 5 1 v n xs) : ∃ a c, v = .slice a n c ∧ n ≤ maxLen := by
  rcases ho.2 with ⟨rfl, rfl⟩ | ⟨g, cap, cur, rfl, _, _, h1, h2, _⟩
  · exact ⟨_, _, rfl, Nat.zero_le _⟩
  · exact ⟨_, _, rfl, Nat.le_trans h1 h2⟩

theorem two_cells {w : World} {b : Nat} {u v : Value} {t : TypeId} (h : w.heap[b]? = some (.cells #[u, v] t (0, 0))) : w.cell? ⟨b, 0, none⟩ = some u ∧ w.cell? ⟨b, 1, none⟩ = some v ∧ w.frozen? ⟨b, 0, none⟩ = false ∧ w.frozen? ⟨b, 1, none⟩ = false := by
  simp [World.cell?, World.frozen?, h]
theorem two_set0 {w : World} {b : Nat} {u v x : Value} {t : TypeId} (h : w.heap[b]? = some (.cells #[u, v] t (0, 0))) : (w.setCell ⟨b, 0, none⟩ x).heap[b]? = some (.cells #[x, v] t (0, 0)) := by
  rw [heap_setCell_same w b 0 _ t x h]; rfl
theorem two_set1 {w : World} {b : Nat} {u v x : Value} {t : TypeId} (h : w.heap[b]? = some (.cells #[u, v] t (0, 0))) : (w.setCell ⟨b, 1, none⟩ x).heap[b]? = some (.cells #[u, x] t (0, 0)) := by
  rw [heap_setCell_same w b 1 _ t x h]; rfl

theorem own_set {w : World} {B n : Nat} {v : Value} {xs : List Value} (ho : w.ownsRow B 5 1 v n xs) {k j : Nat} {cs : Array Value} {t : TypeId} (ht : t ≠ 5) (hc : w.heap[k]? = some (.cells cs t (0, 0))) (u : Value) : (w.setCell ⟨k, j, none⟩ u).ownsRow B 5 1 v n xs :=
  ownsRow_setCell_other ho (a := ⟨k, j, none⟩) (ownBlock_ty ho ht hc) u

/-- One round of the closure's loop: what the world is behind it. -/
theorem fill_step {w w2 : World} {N eb n m : Nat} {v v2 err : Value} {xs ys : List Value} (he : w.heap[eb]? = some (.cells #[v, err] 35 (0, 0))) (ho : w.ownsRow N 5 1 v n xs) (hN : N ≤ eb) (hNw : N ≤ w.heap.size)
    (h2 : w2.ownsRow N 5 1 v2 m ys) (hg : w.grownBy w2 v.ownBlock) :
    (w2.setCell ⟨eb, 0, none⟩ v2).heap[eb]? = some (.cells #[v2, err] 35 (0, 0)) ∧ (w2.setCell ⟨eb, 0, none⟩ v2).ownsRow N 5 1 v2 m ys ∧ Other [eb] w (w2.setCell ⟨eb, 0, none⟩ v2) ∧ Below N w (w2.setCell ⟨eb, 0, none⟩ v2) ∧ w2.cell? ⟨eb, 0, none⟩ = some v ∧ w2.frozen? ⟨eb, 0, none⟩ = false := by
  have he2 : w2.heap[eb]? = some (.cells #[v, err] 35 (0, 0)) := (Other.grown (L := []) ho hg) _ _ _ (by decide) (by simp) he
  exact ⟨two_set0 he2, own_set h2 (by decide) he2 _, (Other.grown ho hg).trans (Other.setCell _ _ _ (by simp)), (((Below.refl N w).grown hg hNw (own_blk ho)).setCell (p := ⟨eb, 0, none⟩) hN _), (two_cells he2).1, (two_cells he2).2.2.1⟩

theorem dN_heap (w : World) (m : Nat) : (w.drewN m).heap = w.heap := by simp
theorem bel_dN {B : Nat} {w : World} (m : Nat) : Below B w (w.drewN m) := ⟨rfl, rfl, rfl, by simp, fun k _ => by rw [dN_heap]⟩

theorem i35 : Ybaf.prog.info? 35 = some Ybaf.t35 := by kernel_rfl

set_option maxHeartbeats 2000000 in
theorem fill_any (w : World) (N eb bc bv s1 bp bs s2 br bd : Nat) (a1 : Option Addr) (l1 c1 : Nat) (a2 : Option Addr) (b2 o2 l2 c2 : Nat) (f2 : Nat → Int) (size reps calls : Nat) (v err : Value) (n : Nat) (xs : List Value)
    (hsz : size ≤ 8) (hrp : reps ≤ 8) (h1 : l1 ≤ 1024) (h2 : l2 ≤ 1024) (hcl : calls ≤ 10)
    (E : Env w eb bc bv s1 bp bs s2 br bd (.slice a1 l1 c1) (.slice a2 l2 c2) size reps calls)
    (he : w.heap[eb]? = some (.cells #[v, err] 35 (0, 0))) (ho : w.ownsRow N 5 1 v n xs) (hn : n = l1 + size) (hNe : N ≤ eb) (hNc : N ≤ bc)
    (hD : Bytes w a2 b2 o2 l2 f2) (hD0 : a2 = none → c2 = 0) (hDb : ∀ i, i < l2 → b2 < N) (hN : N ≤ w.heap.size) :
    Calls Ybaf.prog 12 #[.pointer (some ⟨eb, 0, none⟩), .pointer (some ⟨bc, 0, none⟩), .pointer (some ⟨bv, 0, none⟩), .pointer (some ⟨s1, 0, none⟩), .pointer (some ⟨bp, 0, none⟩), .pointer (some ⟨bs, 0, none⟩), .pointer (some ⟨s2, 0, none⟩), .pointer (some ⟨br, 0, none⟩), .pointer (some ⟨bd, 0, none⟩)] w
      fun e w' => e = .returned (.tuple #[]) ∧ ∃ v', w'.heap[eb]? = some (.cells #[v', err] 35 (0, 0)) ∧ w'.ownsRow N 5 1 v' (n + reps * l2) (xs ++ repl (cellsOf f2 l2) reps) ∧ w'.heap[bc]? = some (.cells #[.int .i64 (calls + 1)] 3 (0, 0)) ∧ Other [eb, bc] w w' ∧ Below N w w' := by
  have ec := E.hc
  have cc := cell_of_one ec
  have zc := free_of_one ec
  -- the world behind the counter's turn
  obtain ⟨w1, hw1⟩ : ∃ w1, w1 = w.setCell ⟨bc, 0, none⟩ (.int .i64 (calls + 1)) := ⟨_, rfl⟩
  have O1 : Other [eb, bc] w w1 := by rw [hw1]; exact Other.setCell _ _ _ (by simp)
  have B1 : Below N w w1 := by rw [hw1]; exact (Below.refl N w).setCell (p := ⟨bc, 0, none⟩) hNc _
  have R1 := E.rest he O1
  have ec1 : w1.heap[bc]? = some (.cells #[.int .i64 (calls + 1)] 3 (0, 0)) := by rw [hw1]; exact one_setCell ec
  have he1 : w1.heap[eb]? = some (.cells #[v, err] 35 (0, 0)) := by rw [hw1, Below.heap_setCell _ _ _ _ (ne_ty he ec (by decide))]; exact he
  have ho1 : w1.ownsRow N 5 1 v n xs := by rw [hw1]; exact own_set ho (by decide) ec _
  have hD1 := hD.later hDb B1
  have hN1 : N ≤ w1.heap.size := Nat.le_trans hN B1.size
  obtain ⟨av, cv, rfl, hmx⟩ := own_form ho1
  have cv1 := cell_of_one R1.hv
  have cp1 := cell_of_one R1.hp
  have cs1 := cell_of_one R1.hs
  have ce1 := (two_cells he1).1
  have hq : ((n : Int) != (l1 : Int) + (size : Int)) = false := by rw [bne_eq_false_iff_eq]; omega
  have H1 : Hid _ := And.intro he1 (And.intro ho1 (And.intro hD1 (And.intro hN1 (And.intro O1 (And.intro B1 (And.intro R1 ec1))))))
  have HW : Hid _ := hw1
  have Hn : Hid _ := hn
  clear hn
  clear E he ho hD O1 B1 R1 ec1 he1 ho1 hD1 hN1 ec
  have qp := fun (wx : World) (a : Addr) => Lib.run_neq_ptr_same wx a Ybaf.underlying31 i35
  go_enter Ybaf.func12, Ybaf.ntmps12
  go_upto_region 1 with fail
  rw [← hw1]
  clear hw1 cc zc
  go_wp2_with fail
  go_quiet (fail)
  go_wp2_with fail
  obtain ⟨he1, ho1, hD1, hN1, O1, B1, R1, ec1⟩ := H1.out
  go_loopw [10] (fun i wr => ∃ k : Nat, ∃ v' : Value, k ≤ reps ∧ i = .int .i64 k ∧ wr.heap[eb]? = some (.cells #[v', err] 35 (0, 0)) ∧ wr.ownsRow N 5 1 v' (n + k * l2) (xs ++ repl (cellsOf f2 l2) k) ∧ Other [eb] w1 wr ∧ Below N w1 wr) (fun i _ => reps - (intOf i).toNat)
  case atStart => exact ⟨0, _, Nat.zero_le _, rfl, by rw [dN_heap]; exact he1, by rw [Nat.zero_mul, repl, List.append_nil]; exact own_same ho1 (fun k _ => by rw [dN_heap]), fun k cs t _ _ hc => by rw [dN_heap]; exact hc, bel_dN nq⟩
  case round =>
    obtain ⟨k, v', hk, rfl, he2, ho2, O2, B2⟩ := hrel
    have cr := cell_of_one (O2 _ _ _ (by decide) (by simp only [List.mem_singleton]; exact ne_ty R1.hr he1 (by decide)) R1.hr)
    have cd := cell_of_one (O2 _ _ _ (by decide) (by simp only [List.mem_singleton]; exact ne_ty R1.hd he1 (by decide)) R1.hd)
    have hD2 := hD1.later hDb B2
    have hN2 : N ≤ wr.heap.size := Nat.le_trans hN1 B2.size
    by_cases hlt : k < reps
    · have hml : k * l2 ≤ 8 * 1024 := Nat.mul_le_mul (by omega) h2
      have hn' := Hn.out
      obtain ⟨v2, w2, hrun, ho3, hg3⟩ := app_own (w := wr.drew) (ho2.drew) c2 hD2.drew hD0 22 (by omega) hN2
      have cd2 : w2.cell? ⟨bd, 0, none⟩ = some (.slice a2 l2 c2) := cell_of_one ((Other.grown (L := []) (w := wr.drew) ho2.drew hg3) _ _ _ (by decide) (by simp) (O2 _ _ _ (by decide) (by simp only [List.mem_singleton]; exact ne_ty R1.hd he1 (by decide)) R1.hd))
      clear hn'
      have hne := ne_ty R1.hd he1 (by decide)
      have hne' := hne.symm
      obtain ⟨he4, ho4, O4, B4, c4, z4⟩ := fill_step (w := wr.drew) he2 ho2.drew hNe hN2 ho3 hg3
      have hadd : n + k * l2 + l2 = n + (k + 1) * l2 := by rw [Nat.succ_mul]; omega
      rw [hadd, List.append_assoc] at ho4
      obtain ⟨av', cv', rfl, hmx'⟩ := own_form ho2
      obtain ⟨av2, cv2, rfl, hmx2⟩ := own_form ho3
      have ce2 := (two_cells he2).1
      have ze2 := (two_cells he2).2.2.1
      have H4 : Hid _ := And.intro he4 (And.intro ho4 (And.intro (O2.trans O4) (B2.drew.trans B4)))
      clear H1 he1 ho1 hD1 hN1 O1 B1 R1 ec1 he2 ho2 O2 B2 hD2 hN2 he4 ho4 O4 B4 hg3 ho3 hadd HW
      go_wp2_with fail
      go_region_law (refine step_append_run _ (by rfl) _ _ _ _ (by rfl) _ _ (by rfl) (by rfl) _ _ hrun ?_)
      all_goals
        go_wp2
        exact ⟨⟨k + 1, _, by omega, by go_num, H4.out.1, H4.out.2.1, H4.out.2.2.1, H4.out.2.2.2⟩, by simp [intOf]; omega⟩
    · obtain rfl : k = reps := by omega
      go_wp2
      go_end0
      exact ⟨rfl, _, he2, ho2, O2 _ _ _ (by decide) (by simp only [List.mem_singleton]; exact ne_ty ec1 he1 (by decide)) ec1, O1.trans (O2.mono (by simp)), B1.trans B2⟩
end Go.Proofs.YbulkacdsFmt
