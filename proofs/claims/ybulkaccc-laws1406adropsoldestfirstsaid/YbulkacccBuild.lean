/- What the law's first loop builds, in plain words: the listings by and by. -/
import Derived.Test.YbulkacccMake
set_option linter.unusedVariables false
set_option linter.unusedSimpArgs false
namespace Go.Proofs.Ybulkaccc
open Go.RowKit Go.WideMaps Go.MapKept

theorem Held.keep {T : List TypeId} {M : List Nat} {B' : Nat} {w w' : World} {B S mR mS L : Nat} {nm : Nat → ByteArray} {ln : Nat → Nat} {F : Where} {eb : Nat → Nat} {lo hi : Nat} (h : Held w B S mR mS L nm ln F eb lo hi) (k : Kept T M B' w w')
    (h1 : 82 ∉ T) (h2 : 79 ∉ T) (h3 : 70 ∉ T) (h4 : 73 ∉ T) (h5 : 65 ∉ T) (h6 : mR ∉ M) (h7 : ∀ i, lo ≤ i → i < hi → F.lm (nm i) ∉ M ∧ F.fm (nm i) ∉ M) : Held w' B S mR mS L nm ln F eb lo hi :=
  ⟨h.ring.keep k h1 h2, h.reps.keep k h3 h4 h6 h7, fun i hi => (h.ans i hi).keep k h5⟩

/-- The repository of listing i is there; the listing itself is not yet. -/
structure RepsC (w : World) (B mR mS : Nat) (nm : Nat → ByteArray) (F : Where) (i : Nat) : Prop where
  top : KMap w 9 mR (TopR nm F 0 (i + 1))
  rep : ∀ j, j < i + 1 → ∃ rc, At w (F.rb (nm j)) rc 70 ∧ rc[0]? = some (.map (some (F.lm (nm j)))) ∧ rc[1]? = some (.map (some (F.fm (nm j))))
  lst : ∀ j, j < i + 1 → KMap w 52 (F.lm (nm j)) (LstR nm F 0 i (nm j))
  emp : ∀ j, j < i + 1 → ∃ c, w.heap[F.fm (nm j)]? = some (.map #[] c)
  vou : ∀ j, j < i → At w (F.ab j) #[.pointer (some ⟨F.hb j, 0, none⟩), .pointer none] 73
  d1 : ∀ j k, j < i + 1 → k < i + 1 → nm j ≠ nm k → F.lm (nm j) ≠ F.lm (nm k)
  d2 : ∀ j k, j < i + 1 → k < i + 1 → F.fm (nm j) ≠ F.lm (nm k)
  d3 : ∀ j, j < i + 1 → F.lm (nm j) ≠ mR ∧ F.fm (nm j) ≠ mR ∧ F.lm (nm j) ≠ mS ∧ F.fm (nm j) ≠ mS
  d4 : mR ≠ mS
  b1 : B ≤ mR
  b2 : ∀ j, j < i + 1 → B ≤ F.lm (nm j)
  b3 : ∀ j, j < i → B ≤ F.ab j

section
variable {w w' : World} {B mR mS : Nat} {nm : Nat → ByteArray} {F : Where} {i : Nat}

theorem Reps.old (h : Reps w B mR mS nm F 0 i) {j0 : Nat} (hj : j0 < i) (e : nm j0 = nm i) : RepsC w B mR mS nm F i := by
  have st : ∀ j, j < i + 1 → ∃ j', j' < i ∧ nm j' = nm j := fun j hj' => by
    by_cases e' : j = i
    · subst e'; exact ⟨j0, hj, e⟩
    · exact ⟨j, by omega, rfl⟩
  refine ⟨h.top.congr fun y u => ?_, fun j hj => ?_, fun j hj => ?_, fun j hj => ?_, fun j hj => h.vou j (Nat.zero_le _) hj, fun j k hj hk hne => ?_, fun j k hj hk => ?_, fun j hj => ?_, h.d4, h.b1, fun j hj => ?_, fun j hj => (h.b2 j (Nat.zero_le _) hj).2⟩
  · constructor
    · rintro ⟨j, _, j2, j3, j4⟩
      obtain ⟨j', a, b⟩ := st j j2
      exact ⟨j', Nat.zero_le _, a, by rw [b]; exact j3, by rw [b]; exact j4⟩
    · rintro ⟨j, _, j2, j3, j4⟩
      exact ⟨j, Nat.zero_le _, by omega, j3, j4⟩
  · obtain ⟨j', a, b⟩ := st j hj
    rw [← b]; exact h.rep j' (Nat.zero_le _) a
  · obtain ⟨j', a, b⟩ := st j hj
    rw [← b]; exact h.lst j' (Nat.zero_le _) a
  · obtain ⟨j', a, b⟩ := st j hj
    rw [← b]; exact h.emp j' (Nat.zero_le _) a
  · obtain ⟨j', a, b⟩ := st j hj
    obtain ⟨k', c, d⟩ := st k hk
    rw [← b, ← d] at hne ⊢
    exact h.d1 j' k' (Nat.zero_le _) a (Nat.zero_le _) c hne
  · obtain ⟨j', a, b⟩ := st j hj
    obtain ⟨k', c, d⟩ := st k hk
    rw [← b, ← d]
    exact h.d2 j' k' (Nat.zero_le _) a (Nat.zero_le _) c
  · obtain ⟨j', a, b⟩ := st j hj
    rw [← b]; exact h.d3 j' (Nat.zero_le _) a
  · obtain ⟨j', a, b⟩ := st j hj
    rw [← b]; exact (h.b2 j' (Nat.zero_le _) a).1

/-- The repository s is at R, its maps at l and f. -/
def Where.rep (F : Where) (s : ByteArray) (R l f : Nat) : Where :=
  { F with rb := fun t => if t = s then R else F.rb t, lm := fun t => if t = s then l else F.lm t, fm := fun t => if t = s then f else F.fm t }
theorem Where.rep_new (F : Where) (s : ByteArray) (R l f : Nat) : (F.rep s R l f).rb s = R ∧ (F.rep s R l f).lm s = l ∧ (F.rep s R l f).fm s = f := by simp [Where.rep]
theorem Where.rep_old (F : Where) {s t : ByteArray} (R l f : Nat) (h : t ≠ s) : (F.rep s R l f).rb t = F.rb t ∧ (F.rep s R l f).lm t = F.lm t ∧ (F.rep s R l f).fm t = F.fm t := by simp [Where.rep, h]

theorem Reps.new (h : Reps w B mR mS nm F 0 i) (hB : B ≤ w.heap.size) (hmS : mS < w.heap.size) (hne : ∀ j, j < i → nm j ≠ nm i) (O : Only [mR] w w') {R l f c1 c2 : Nat} (hR : w.heap.size ≤ R) (hl : w.heap.size ≤ l) (hf : w.heap.size ≤ f) (hlf : f ≠ l)
    (rc : Array Value) (aR : At w' R rc 70) (rc0 : rc[0]? = some (.map (some l))) (rc1 : rc[1]? = some (.map (some f))) (al : w'.heap[l]? = some (.map #[] c1)) (af : w'.heap[f]? = some (.map #[] c2))
    (t : KMap w' 9 mR (fun y u => TopR nm F 0 i y u ∨ (y = .string (nm i) ∧ u = .pointer (some ⟨R, 0, none⟩)))) : RepsC w' B mR mS nm (F.rep (nm i) R l f) i := by
  have hmR := h.top.lt
  have cs : ∀ j, j < i + 1 → (nm j = nm i) ∨ (j < i ∧ nm j ≠ nm i) := fun j hj => by
    by_cases e : j = i
    · exact .inl (by rw [e])
    · exact .inr ⟨by omega, hne j (by omega)⟩
  have lo : ∀ j, j < i → F.lm (nm j) < w.heap.size ∧ F.fm (nm j) < w.heap.size := fun j hj => by
    obtain ⟨c, hc⟩ := h.emp j (Nat.zero_le _) hj
    exact ⟨(h.lst j (Nat.zero_le _) hj).lt, lt_of_block hc⟩
  refine ⟨t.congr fun y u => ?_, fun j hj => ?_, fun j hj => ?_, fun j hj => ?_, fun j hj => ?_, fun j k hj hk hn => ?_, fun j k hj hk => ?_, fun j hj => ?_, h.d4, h.b1, fun j hj => ?_, fun j hj => (h.b2 j (Nat.zero_le _) hj).2⟩
  · constructor
    · rintro ⟨j, _, j2, j3, j4⟩
      rcases cs j j2 with e | ⟨hj, e⟩
      · refine .inr ⟨by rw [j3, e], ?_⟩
        rw [j4, e, (F.rep_new _ _ _ _).1]
      · refine .inl ⟨j, Nat.zero_le _, hj, j3, ?_⟩
        rw [j4, (F.rep_old _ _ _ e).1]
    · rintro (⟨j, _, j2, j3, j4⟩ | ⟨j3, j4⟩)
      · refine ⟨j, Nat.zero_le _, by omega, j3, ?_⟩
        rw [j4, (F.rep_old _ _ _ (hne j j2)).1]
      · refine ⟨i, Nat.zero_le _, by omega, j3, ?_⟩
        rw [j4, (F.rep_new _ _ _ _).1]
  · rcases cs j hj with e | ⟨hj, e⟩
    · obtain ⟨e1, e2, e3⟩ := F.rep_new (nm i) R l f
      rw [e, e1, e2, e3]
      exact ⟨_, aR, rc0, rc1⟩
    · obtain ⟨e1, e2, e3⟩ := F.rep_old R l f e
      rw [e1, e2, e3]
      obtain ⟨rc, r1, r2⟩ := h.rep j (Nat.zero_le _) hj
      exact ⟨rc, r1.keep O (by simp only [List.mem_singleton]; exact h.top.neAt r1), r2⟩
  · rcases cs j hj with e | ⟨hj, e⟩
    · obtain ⟨e1, e2, e3⟩ := F.rep_new (nm i) R l f
      rw [e, e2]
      refine (KMap.made w' 52 l c1 al).congr fun y u => ?_
      simp only [iff_false]
      rintro ⟨j, _, j2, j3, _⟩
      exact hne j j2 j3
    · obtain ⟨e1, e2, e3⟩ := F.rep_old R l f e
      rw [e2]
      obtain ⟨es, c, q1, q2⟩ := h.lst j (Nat.zero_le _) hj
      exact ⟨es, c, O.at (by simp only [List.mem_singleton]; exact (h.d3 j (Nat.zero_le _) hj).1) q1, q2⟩
  · rcases cs j hj with e | ⟨hj, e⟩
    · obtain ⟨e1, e2, e3⟩ := F.rep_new (nm i) R l f
      rw [e, e3]
      exact ⟨_, af⟩
    · obtain ⟨e1, e2, e3⟩ := F.rep_old R l f e
      rw [e3]
      obtain ⟨c, q⟩ := h.emp j (Nat.zero_le _) hj
      exact ⟨c, O.at (by simp only [List.mem_singleton]; exact (h.d3 j (Nat.zero_le _) hj).2.1) q⟩
  · have v := h.vou j (Nat.zero_le _) hj
    exact v.keep O (by simp only [List.mem_singleton]; exact h.top.neAt v)
  · rcases cs j hj with e | ⟨hj, e⟩
    · rcases cs k hk with e' | ⟨hk, e'⟩
      · exact absurd (e.trans e'.symm) hn
      · rw [e, (F.rep_new (nm i) R l f).2.1, (F.rep_old R l f e').2.1]
        have := (lo k hk).1; omega
    · rcases cs k hk with e' | ⟨hk, e'⟩
      · rw [e', (F.rep_new (nm i) R l f).2.1, (F.rep_old R l f e).2.1]
        have := (lo j hj).1; omega
      · rw [(F.rep_old R l f e).2.1, (F.rep_old R l f e').2.1]
        exact h.d1 j k (Nat.zero_le _) hj (Nat.zero_le _) hk hn
  · rcases cs j hj with e | ⟨hj, e⟩
    · rcases cs k hk with e' | ⟨hk, e'⟩
      · rw [e, e', (F.rep_new (nm i) R l f).2.1, (F.rep_new (nm i) R l f).2.2]
        exact hlf
      · rw [e, (F.rep_new (nm i) R l f).2.2, (F.rep_old R l f e').2.1]
        have := (lo k hk).1; omega
    · rcases cs k hk with e' | ⟨hk, e'⟩
      · rw [e', (F.rep_new (nm i) R l f).2.1, (F.rep_old R l f e).2.2]
        have := (lo j hj).2; omega
      · rw [(F.rep_old R l f e).2.2, (F.rep_old R l f e').2.1]
        exact h.d2 j k (Nat.zero_le _) hj (Nat.zero_le _) hk
  · rcases cs j hj with e | ⟨hj, e⟩
    · rw [e, (F.rep_new (nm i) R l f).2.1, (F.rep_new (nm i) R l f).2.2]
      exact ⟨by omega, by omega, by omega, by omega⟩
    · rw [(F.rep_old R l f e).2.1, (F.rep_old R l f e).2.2]
      exact h.d3 j (Nat.zero_le _) hj
  · rcases cs j hj with e | ⟨hj, e⟩
    · rw [e, (F.rep_new (nm i) R l f).2.1]
      omega
    · rw [(F.rep_old R l f e).2.1]
      exact (h.b2 j (Nat.zero_le _) hj).1

def Where.put (F : Where) (i A : Nat) : Where := { F with ab := fun j => if j = i then A else F.ab j }

theorem RepsC.fill (h : RepsC w B mR mS nm F i) (hB : B ≤ w.heap.size) (O : Only [F.lm (nm i)] w w') {A : Nat} (hA : w.heap.size ≤ A) (aA : At w' A #[.pointer (some ⟨F.hb i, 0, none⟩), .pointer none] 73)
    (t : KMap w' 52 (F.lm (nm i)) (fun y u => LstR nm F 0 i (nm i) y u ∨ (y = K i ∧ u = .pointer (some ⟨A, 0, none⟩)))) : Reps w' B mR mS nm (F.put i A) 0 (i + 1) := by
  have li := h.lst i (by omega)
  have d3 := h.d3 i (by omega)
  have an : ∀ j, j ≠ i → (F.put i A).ab j = F.ab j := fun j e => by simp [Where.put, e]
  have ai : (F.put i A).ab i = A := by simp [Where.put]
  refine ⟨?_, fun j _ hj => ?_, fun j _ hj => ?_, fun j _ hj => ?_, fun j _ hj => ?_, fun j k _ hj _ hk => h.d1 j k hj hk, fun j k _ hj _ hk => h.d2 j k hj hk, fun j _ hj => h.d3 j hj, h.d4, h.b1, fun j _ hj => ⟨h.b2 j hj, ?_⟩⟩
  · obtain ⟨es, c, q1, q2⟩ := h.top
    exact ⟨es, c, O.at (by simp only [List.mem_singleton]; exact d3.1.symm) q1, q2⟩
  · obtain ⟨rc, r1, r2⟩ := h.rep j hj
    exact ⟨rc, r1.keep O (by simp only [List.mem_singleton]; exact li.neAt r1), r2⟩
  · by_cases e : nm j = nm i
    · show KMap w' 52 (F.lm (nm j)) _
      rw [e]
      refine t.congr fun y u => ?_
      constructor
      · rintro ⟨k, _, k2, k3, k4, k5⟩
        by_cases e' : k = i
        · subst e'
          rw [ai] at k5
          exact .inr ⟨k4, k5⟩
        · rw [an k e'] at k5
          exact .inl ⟨k, Nat.zero_le _, by omega, k3, k4, k5⟩
      · rintro (⟨k, _, k2, k3, k4, k5⟩ | ⟨k4, k5⟩)
        · exact ⟨k, Nat.zero_le _, by omega, k3, k4, by rw [an k (by omega)]; exact k5⟩
        · exact ⟨i, Nat.zero_le _, by omega, rfl, k4, by rw [ai]; exact k5⟩
    · obtain ⟨es, c, q1, q2⟩ := h.lst j hj
      have q : KMap w' 52 (F.lm (nm j)) (LstR nm F 0 i (nm j)) := ⟨es, c, O.at (by simp only [List.mem_singleton]; exact h.d1 j i hj (by omega) e) q1, q2⟩
      refine q.congr fun y u => ?_
      constructor
      · rintro ⟨k, _, k2, k3, k4, k5⟩
        have e' : k ≠ i := fun e' => e (by rw [← k3, e'])
        rw [an k e'] at k5
        exact ⟨k, Nat.zero_le _, by omega, k3, k4, k5⟩
      · rintro ⟨k, _, k2, k3, k4, k5⟩
        exact ⟨k, Nat.zero_le _, by omega, k3, k4, by rw [an k (by omega)]; exact k5⟩
  · obtain ⟨c, q⟩ := h.emp j hj
    exact ⟨c, O.at (by simp only [List.mem_singleton]; exact h.d2 j i hj (by omega)) q⟩
  · by_cases e : j = i
    · subst e
      rw [ai]
      exact aA
    · rw [an j e]
      have v := h.vou j (by omega)
      exact v.keep O (by simp only [List.mem_singleton]; exact li.neAt v)
  · by_cases e : j = i
    · subst e
      rw [ai]
      omega
    · rw [an j e]
      exact h.b3 j (by omega)

/-- The answer i is at H. -/
def Where.ansAt (F : Where) (i H : Nat) : Where := { F with hb := fun j => if j = i then H else F.hb j }
theorem Reps.ansAt (h : Reps w B mR mS nm F 0 i) (H : Nat) : Reps w B mR mS nm (F.ansAt i H) 0 i := by
  refine ⟨h.top, h.rep, h.lst, h.emp, fun j a b => ?_, h.d1, h.d2, h.d3, h.d4, h.b1, h.b2⟩
  have : (F.ansAt i H).hb j = F.hb j := by
    have : j ≠ i := by omega
    simp [Where.ansAt, this]
  rw [this]
  exact h.vou j a b
end
end Go.Proofs.Ybulkaccc
