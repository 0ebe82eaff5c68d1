/- The list as a ring of elements: PushBack and Remove by their contracts. -/
import Derived.Test.YbulkacccList
set_option linter.unusedVariables false
set_option linter.unusedSimpArgs false
namespace Go.Proofs.Ybulkaccc
open Go.RowKit

/-- Nothing has turned below B; but for the types T and the maps M all blocks stand as they were. -/
structure Kept (T : List TypeId) (M : List Nat) (B : Nat) (w w' : World) : Prop where
  bel : Below B w w'
  cells : ∀ k cs t, t ∉ T → At w k cs t → At w' k cs t
  maps : ∀ k es c, k ∉ M → w.heap[k]? = some (.map es c) → w'.heap[k]? = some (.map es c)

theorem Kept.refl (T : List TypeId) (M : List Nat) (B : Nat) (w : World) : Kept T M B w w := ⟨Below.refl _ _, fun _ _ _ _ h => h, fun _ _ _ _ h => h⟩
theorem Kept.trans {T : List TypeId} {M : List Nat} {B : Nat} {a b c : World} (h : Kept T M B a b) (k : Kept T M B b c) : Kept T M B a c :=
  ⟨h.bel.trans k.bel, fun i cs t ht hc => k.cells i cs t ht (h.cells i cs t ht hc), fun i es c hi hc => k.maps i es c hi (h.maps i es c hi hc)⟩
theorem Kept.mono {T T' : List TypeId} {M M' : List Nat} {B : Nat} {a b : World} (h : Kept T M B a b) (hT : ∀ x, x ∈ T → x ∈ T') (hM : ∀ x, x ∈ M → x ∈ M') : Kept T' M' B a b :=
  ⟨h.bel, fun i cs t ht hc => h.cells i cs t (fun hm => ht (hT _ hm)) hc, fun i es c hi hc => h.maps i es c (fun hm => hi (hM _ hm)) hc⟩
theorem Kept.of_only {T : List TypeId} {M : List Nat} {B : Nat} {w w' : World} {L : List Nat} (h : Only L w w') (hB : B ≤ w.heap.size)
    (hL : ∀ x ∈ L, B ≤ x ∧ ((∃ cs t, At w x cs t ∧ t ∈ T) ∨ x ∈ M ∧ ∃ es c, w.heap[x]? = some (.map es c))) : Kept T M B w w' := by
  refine ⟨h.below (fun x hx => (hL x hx).1) hB, fun k cs t ht hc => h.at (fun hm => ?_) hc, fun k es c hk hc => h.at (fun hm => ?_) hc⟩
  · rcases (hL k hm).2 with ⟨ds, u, hd, hu⟩ | ⟨_, es, c, hd⟩
    · have := hc.ne hd (fun e => ht (by rw [e]; exact hu)); exact this rfl
    · exact hc.neMap hd rfl
  · rcases (hL k hm).2 with ⟨ds, u, hd, hu⟩ | ⟨hm', _⟩
    · exact hd.neMap hc rfl
    · exact hk hm'
theorem Kept.drew {T : List TypeId} {M : List Nat} {B : Nat} {a w : World} (h : Kept T M B a w) : Kept T M B a w.drew := ⟨h.bel.drew, h.cells, h.maps⟩
theorem Kept.size {T : List TypeId} {M : List Nat} {B : Nat} {a w : World} (h : Kept T M B a w) : a.heap.size ≤ w.heap.size := h.bel.size

/-- The elements lo .. hi - 1 lie in the list at L, in this order; the value of element i is the pointer to hb i. -/
structure Ring (w : World) (B L : Nat) (eb hb : Nat → Nat) (lo hi : Nat) : Prop where
  le : lo ≤ hi
  root : At w L #[.pointer (some ⟨if lo < hi then eb lo else L, 0, none⟩), .pointer (some ⟨if lo < hi then eb (hi - 1) else L, 0, none⟩), .pointer none, .nilIface, .int .i64 ((hi : Int) - (lo : Int))] 82
  el : ∀ i, lo ≤ i → i < hi → At w (eb i) #[.pointer (some ⟨if i + 1 < hi then eb (i + 1) else L, 0, none⟩), .pointer (some ⟨if lo < i then eb (i - 1) else L, 0, none⟩), .pointer (some ⟨L, 0, none⟩), .iface 54 (.pointer (some ⟨hb i, 0, none⟩))] 79
  inj : ∀ i j, lo ≤ i → i < hi → lo ≤ j → j < hi → eb i = eb j → i = j
  bL : B ≤ L
  bE : ∀ i, lo ≤ i → i < hi → B ≤ eb i

theorem Ring.keep {T : List TypeId} {M : List Nat} {w w' : World} {B B' L : Nat} {eb hb : Nat → Nat} {lo hi : Nat} (R : Ring w B L eb hb lo hi) (h : Kept T M B' w w') (h1 : 82 ∉ T) (h2 : 79 ∉ T) : Ring w' B L eb hb lo hi :=
  ⟨R.le, h.cells _ _ _ h1 R.root, fun i a b => h.cells _ _ _ h2 (R.el i a b), R.inj, R.bL, R.bE⟩

set_option maxHeartbeats 1600000 in
theorem push_any (w : World) (B L : Nat) (eb hb : Nat → Nat) (lo hi H : Nat) (R : Ring w B L eb hb lo hi) (hB : B ≤ w.heap.size) (hn : hi < 1500) :
    Calls Yba.prog 5 #[.pointer (some ⟨L, 0, none⟩), .iface 54 (.pointer (some ⟨H, 0, none⟩))] w fun e w' => ∃ E, e = .returned (.pointer (some ⟨E, 0, none⟩)) ∧ w.heap.size ≤ E ∧
      Ring w' B L (fun i => if i = hi then E else eb i) (fun i => if i = hi then H else hb i) lo (hi + 1) ∧ Kept [82, 79] [] B w w' := by
  have hle := R.le
  have c0 := R.root.cell 0 _ rfl
  have c1 := R.root.cell 1 _ rfl
  have HC := hid (lazy_any w L _ c0)
  have HR := hid R
  have Hle := hid hle
  have HB := hid hB
  clear R c0 hle hB
  simp only [List.getElem_toArray, List.getElem_cons_zero, List.getElem_cons_succ] at c1
  -- the insertion itself
  have HI : Hid (∀ x : World, x = w.alloc (.cells #[.pointer none, .pointer none, .pointer none, .iface 54 (.pointer (some ⟨H, 0, none⟩))] 79) →
      Calls Yba.prog 14 #[.pointer (some ⟨L, 0, none⟩), .pointer (some ⟨w.heap.size, 0, none⟩), .pointer (some ⟨if lo < hi then eb (hi - 1) else L, 0, none⟩)] x fun e w' => e = .returned (.pointer (some ⟨w.heap.size, 0, none⟩)) ∧
        Ring w' B L (fun i => if i = hi then w.heap.size else eb i) (fun i => if i = hi then H else hb i) lo (hi + 1) ∧ Kept [82, 79] [] B w w') := by
    intro x hx
    have R := HR.out
    have hle := R.le
    have hB := HB.out
    have hE : At x w.heap.size #[.pointer none, .pointer none, .pointer none, .iface 54 (.pointer (some ⟨H, 0, none⟩))] 79 := by subst hx; exact heap_alloc_new w _
    have K0 : Kept [82, 79] [] B w x := by subst hx; exact Kept.of_only ((Only.refl [] w).alloc _) HB.out (by simp)
    have O0 : Only [] w x := by subst hx; exact (Only.refl [] w).alloc _
    have hsx : x.heap.size = w.heap.size + 1 := by subst hx; simp
    have R0 : At x L _ 82 := R.root.keep O0 (by simp)
    by_cases hlt : lo < hi
    · simp only [hlt, if_true] at R0 ⊢
      have hA : At x (eb (hi - 1)) _ 79 := (R.el (hi - 1) (by omega) (by omega)).keep O0 (by simp)
      have hf : ¬ (hi - 1 + 1 < hi) := by omega
      simp only [hf, if_false] at hA
      have nAE : eb (hi - 1) ≠ w.heap.size := by have := (R.el (hi - 1) (by omega) (by omega)).lt; omega
      refine (insert_more x L w.heap.size (eb (hi - 1)) _ _ _ _ _ (by omega) (by omega) R0 hA hE nAE).mono ?_
      rintro e w' ⟨rfl, h1, h2, h3, O⟩
      refine ⟨rfl, ⟨by omega, ?_, ?_, ?_, R.bL, ?_⟩, ?_⟩
      · have e1 : ((hi : Int) - (lo : Int) + 1) = (((hi + 1 : Nat) : Int) - (lo : Int)) := by omega
        have e2 : lo < hi + 1 := by omega
        have e3 : lo ≠ hi := by omega
        rw [e1] at h1
        simpa [e2, e3] using h1
      · intro i hi1 hi2
        by_cases e : i = hi
        · subst e
          have e4 : i - 1 ≠ i := by omega
          simpa [hlt, e4] using h3
        · by_cases e' : i = hi - 1
          · have e5 : i + 1 = hi := by omega
            have e6 : i - 1 ≠ hi := by omega
            have := h2
            rw [← e'] at this
            simpa [e, e5, e6] using this
          · have q := (((R.el i hi1 (by omega)).keep O0 (by simp))).keep O (by
              simp only [List.mem_cons, List.not_mem_nil, or_false, not_or]
              refine ⟨?_, ?_, ?_⟩
              · exact (R.el i hi1 (by omega)).ne R.root (by decide)
              · exact fun e => e' (R.inj _ _ hi1 (by omega) (by omega) (by omega) e)
              · have := (R.el i hi1 (by omega)).lt; omega)
            have e5 : i + 1 ≠ hi := by omega
            have e6 : i - 1 ≠ hi := by omega
            have e7 : i + 1 < hi := by omega
            have e8 : i < hi := by omega
            simpa [e, e5, e6, e7, e8] using q
      · intro i j a b c d e
        have li : ∀ i, lo ≤ i → i < hi → eb i ≠ w.heap.size := fun i a b => by have := (R.el i a b).lt; omega
        by_cases ei : i = hi
        · by_cases ej : j = hi
          · omega
          · simp only [ei, ej, if_true, if_false] at e
            exact absurd e.symm (li j c (by omega))
        · by_cases ej : j = hi
          · simp only [ei, ej, if_true, if_false] at e
            exact absurd e (li i a (by omega))
          · simp only [ei, ej, if_false] at e
            exact R.inj i j a (by omega) c (by omega) e
      · intro i a b
        by_cases e : i = hi
        · simp only [e, if_true]; exact HB.out
        · simp only [e, if_false]; exact R.bE i a (by omega)
      · refine K0.trans (Kept.of_only O (by omega) ?_)
        intro y hy
        simp only [List.mem_cons, List.not_mem_nil, or_false] at hy
        rcases hy with rfl | rfl | rfl
        · exact ⟨R.bL, .inl ⟨_, _, R0, by simp⟩⟩
        · exact ⟨R.bE _ (by omega) (by omega), .inl ⟨_, _, hA, by simp⟩⟩
        · exact ⟨HB.out, .inl ⟨_, _, hE, by simp⟩⟩
    · have e0 : lo = hi := by omega
      subst e0
      simp only [Nat.lt_irrefl, if_false, Int.sub_self] at R0 ⊢
      refine (insert_first x L w.heap.size _ R0 hE).mono ?_
      rintro e w' ⟨rfl, h1, h3, O⟩
      refine ⟨rfl, ⟨by omega, ?_, ?_, ?_, R.bL, ?_⟩, ?_⟩
      · have e1 : (((lo + 1 : Nat) : Int) - (lo : Int)) = 1 := by omega
        rw [e1]
        simpa using h1
      · intro i hi1 hi2
        have e : i = lo := by omega
        subst e
        simpa using h3
      · intro i j a b c d e
        omega
      · intro i a b
        have e : i = lo := by omega
        simp only [e, if_true]; exact HB.out
      · refine K0.trans (Kept.of_only O (by omega) ?_)
        intro y hy
        simp only [List.mem_cons, List.not_mem_nil, or_false] at hy
        rcases hy with rfl | rfl
        · exact ⟨R.bL, .inl ⟨_, _, R0, by simp⟩⟩
        · exact ⟨HB.out, .inl ⟨_, _, hE, by simp⟩⟩
  clear HR
  generalize (if lo < hi then eb (hi - 1) else L) = pr at c1 HI
  go_enter Yba.func5, Yba.ntmps5
  go_wp2_with fail
  refine Calls.mono HC.out ?_
  rintro e w1 ⟨rfl, rfl⟩
  clear HC
  go_wp2_with fail
  go_enter Yba.func12, Yba.ntmps12
  go_wp2_with fail
  refine Calls.mono (HI.out _ rfl) ?_
  rintro e w2 ⟨rfl, h1, h2⟩
  have HE := hid (And.intro h1 h2)
  clear HI h1 h2
  go_wp2
  go_ret
  exact ⟨_, rfl, Nat.le_refl _, HE.out.1, HE.out.2⟩

theorem i82 : Yba.prog.info? 82 = some Yba.t82 := by kernel_rfl

set_option maxHeartbeats 1600000 in
theorem remove_any (w : World) (B L : Nat) (eb hb : Nat → Nat) (lo hi : Nat) (R : Ring w B L eb hb lo hi) (hB : B ≤ w.heap.size) (hlt : lo < hi) (hn : hi < 1500) :
    Calls Yba.prog 15 #[.pointer (some ⟨L, 0, none⟩), .pointer (some ⟨eb lo, 0, none⟩)] w fun e w' => (∃ v, e = .returned v) ∧ Ring w' B L eb hb (lo + 1) hi ∧ Kept [82, 79] [] B w w' := by
  have HI : Hid (Calls Yba.prog 17 #[.pointer (some ⟨L, 0, none⟩), .pointer (some ⟨eb lo, 0, none⟩)] w fun e w' => e = .returned (.tuple #[]) ∧ w'.cell? ⟨eb lo, 3, none⟩ = some (.iface 54 (.pointer (some ⟨hb lo, 0, none⟩))) ∧ Ring w' B L eb hb (lo + 1) hi ∧ Kept [82, 79] [] B w w') := by
    have hL := R.root
    have hE := R.el lo (Nat.le_refl _) hlt
    simp only [hlt, if_true, Nat.lt_irrefl, if_false] at hL hE
    by_cases h1 : lo + 1 < hi
    · simp only [h1, if_true] at hE
      have hN := R.el (lo + 1) (by omega) h1
      have e1 : lo < lo + 1 := by omega
      simp only [e1, if_true, Nat.add_sub_cancel] at hN
      have nEN : eb lo ≠ eb (lo + 1) := fun e => by have := R.inj _ _ (Nat.le_refl _) hlt (by omega) h1 e; omega
      refine (remove_more w L (eb lo) (eb (lo + 1)) _ _ _ _ _ (by omega) (by omega) hL hE hN nEN).mono ?_
      rintro e w' ⟨rfl, a1, a2, a3, O⟩
      refine ⟨rfl, a2.cell 3 _ rfl, ⟨by omega, ?_, ?_, ?_, R.bL, fun i a b => R.bE i (by omega) b⟩, Kept.of_only O hB ?_⟩
      · have e2 : (hi : Int) - (lo : Int) - 1 = (hi : Int) - ((lo + 1 : Nat) : Int) := by omega
        rw [e2] at a1
        simpa [h1] using a1
      · intro i b1 b2
        by_cases e : i = lo + 1
        · subst e
          simpa using a3
        · have q := (R.el i (by omega) b2).keep O (by
            simp only [List.mem_cons, List.not_mem_nil, or_false, not_or]
            refine ⟨?_, ?_, ?_⟩
            · exact (R.el i (by omega) b2).ne R.root (by decide)
            · exact fun e' => by have := R.inj _ _ (by omega) b2 (by omega) hlt e'; omega
            · exact fun e' => by have := R.inj _ _ (by omega) b2 (by omega) h1 e'; omega)
          have e3 : lo < i := by omega
          have e4 : lo + 1 < i := by omega
          simpa [e3, e4] using q
      · intro i j a b c d e
        exact R.inj i j (by omega) b (by omega) d e
      · intro y hy
        simp only [List.mem_cons, List.not_mem_nil, or_false] at hy
        rcases hy with rfl | rfl | rfl
        · exact ⟨R.bL, .inl ⟨_, _, hL, by simp⟩⟩
        · exact ⟨R.bE _ (by omega) hlt, .inl ⟨_, _, hE, by simp⟩⟩
        · exact ⟨R.bE _ (by omega) h1, .inl ⟨_, _, hN, by simp⟩⟩
    · have e0 : hi = lo + 1 := by omega
      subst e0
      simp only [Nat.lt_irrefl, if_false, Nat.add_sub_cancel] at hE hL
      have e1 : ((lo + 1 : Nat) : Int) - (lo : Int) = 1 := by omega
      rw [e1] at hL
      refine (remove_last w L (eb lo) _ hL hE).mono ?_
      rintro e w' ⟨rfl, a1, a2, O⟩
      refine ⟨rfl, a2.cell 3 _ rfl, ⟨by omega, ?_, fun i a b => by omega, fun i j a b => by omega, R.bL, fun i a b => by omega⟩, Kept.of_only O hB ?_⟩
      · simpa using a1
      · intro y hy
        simp only [List.mem_cons, List.not_mem_nil, or_false] at hy
        rcases hy with rfl | rfl
        · exact ⟨R.bL, .inl ⟨_, _, hL, by simp⟩⟩
        · exact ⟨R.bE _ (by omega) hlt, .inl ⟨_, _, hE, by simp⟩⟩
  have d2 := (R.el lo (Nat.le_refl _) hlt).cell 2 _ rfl
  have qe := fun (wx : World) (a : Addr) => Go.run_eql_ptr_same wx a Yba.underlying26 i82
  clear R
  generalize eb lo = E at *
  go_enter Yba.func15, Yba.ntmps15
  go_wp2_with fail
  refine Calls.mono HI.out ?_
  rintro e w1 ⟨rfl, c3, h1, h2⟩
  have HE := hid (And.intro h1 h2)
  clear HI h1 h2 d2
  go_wp2
  go_ret
  exact ⟨⟨_, rfl⟩, HE.out.1, HE.out.2⟩
end Go.Proofs.Ybulkaccc
