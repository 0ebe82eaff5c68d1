/- Plain part for LawS1409BFrame: blocks that are no byte rows stay as they were; an owned row grows by zeros; what an encoder is in memory. -/
import Derived.OneCell
import Derived.Laws.OwnMore
import Derived.Deep.AppendSrc
namespace Go.Proofs.YbulkacdsFmt
open Go.RowKit

/-- Every block that is no row of bytes (type 5) and is not listed is as it was. -/
def Other (L : List Nat) (w w' : World) : Prop := ∀ k cs t, t ≠ 5 → k ∉ L → w.heap[k]? = some (.cells cs t (0, 0)) → w'.heap[k]? = some (.cells cs t (0, 0))

theorem Other.refl (L : List Nat) (w : World) : Other L w w := fun _ _ _ _ _ h => h
theorem Other.trans {L : List Nat} {a b c : World} (h : Other L a b) (k : Other L b c) : Other L a c := fun i cs t ht hi hc => k i cs t ht hi (h i cs t ht hi hc)
theorem Other.mono {L L' : List Nat} {a b : World} (h : Other L a b) (hl : ∀ x, x ∈ L → x ∈ L') : Other L' a b := fun i cs t ht hi hc => h i cs t ht (fun hm => hi (hl i hm)) hc
theorem Other.alloc (L : List Nat) (w : World) (o : Obj) : Other L w (w.alloc o) := fun i cs t _ _ hc => by
  rw [Below.heap_alloc _ _ _ (lt_of_block hc)]; exact hc
theorem Other.setCell {L : List Nat} (w : World) (a : Addr) (u : Value) (h : a.block ∈ L) : Other L w (w.setCell a u) := fun i cs t _ hi hc => by
  have hne : i ≠ a.block := fun e => hi (by rw [e]; exact h)
  rw [Below.heap_setCell _ _ _ _ hne]; exact hc
theorem ownBlock_ty {w : World} {B n : Nat} {v : Value} {xs : List Value} (ho : w.ownsRow B 5 1 v n xs) {k : Nat} {cs : Array Value} {t : TypeId} (ht : t ≠ 5) (hc : w.heap[k]? = some (.cells cs t (0, 0))) : v.ownBlock ≠ some k := by
  rcases ho.2 with ⟨rfl, _⟩ | ⟨g, cap, cur, rfl, _, hg, _⟩
  · simp [Value.ownBlock]
  · intro e
    simp only [Value.ownBlock, Option.some.injEq] at e
    subst e
    rw [hg] at hc
    simp at hc
    exact ht hc.2.symm
theorem Other.grown {L : List Nat} {w w' : World} {B n : Nat} {v : Value} {xs : List Value} (ho : w.ownsRow B 5 1 v n xs) (hg : w.grownBy w' v.ownBlock) : Other L w w' := fun i cs t ht _ hc => by
  rw [hg.block i (lt_of_block hc) (fun e => ownBlock_ty ho ht hc e.symm)]; exact hc
theorem Other.grownNone {L : List Nat} {w w' : World} (hg : w.grownBy w' none) : Other L w w' := fun i cs t _ _ hc => by
  rw [hg.block i (lt_of_block hc) (by simp)]; exact hc
theorem Other.below {L : List Nat} {w w' : World} (hb : Below w.heap.size w w') : Other L w w' := fun i cs t _ _ hc => by
  rw [hb.block i (lt_of_block hc)]; exact hc

/-- The block of the row that is owned. -/
theorem own_blk {w : World} {B n : Nat} {v : Value} {xs : List Value} (ho : w.ownsRow B 5 1 v n xs) : ∀ k, v.ownBlock = some k → B ≤ k := fun k hk => (ho.lt k hk).1

/-- An owned row, another world in which its block is as it was. -/
theorem own_same {w w' : World} {B n : Nat} {v : Value} {xs : List Value} (ho : w.ownsRow B 5 1 v n xs) (h : ∀ k, v.ownBlock = some k → w'.heap[k]? = w.heap[k]?) : w'.ownsRow B 5 1 v n xs := by
  obtain ⟨h1, h2⟩ := ho
  refine ⟨h1, ?_⟩
  rcases h2 with h2 | ⟨g, cap, cur, rfl, hg, hh, r⟩
  · exact .inl h2
  · exact .inr ⟨g, cap, cur, rfl, hg, by rw [h g rfl]; exact hh, r⟩
theorem own_below {w w' : World} {B n : Nat} {v : Value} {xs : List Value} (ho : w.ownsRow B 5 1 v n xs) (hb : Below w.heap.size w w') : w'.ownsRow B 5 1 v n xs :=
  own_same ho fun k hk => hb.block k (ho.lt k hk).2

section
variable {P : Program} (w : World)

/-- append(own, make([]T, m)...): the owned row, m zeros behind it. -/
theorem run_append_own_zeros (base : Nat) (t tn ty e : TypeId) (i : TypeInfo) (z : Value) (k kn : IntKind) (ht : P.underlying t = some (.slice e)) (htn : P.underlying tn = some (.int kn)) (hi : P.info? e = some i) (hz : i.zero = some z)
    (hsize : i.size = 1) (hby : i.bytes = 1) (hzs : z.cells = #[z]) (h1 : z.oneCell' = true)
    (v : Value) (n : Nat) (xs : List Value) (hown : w.ownsRow base e 1 v n xs) (m : Nat)
    (hm : n + m ≤ 140737488355328) (hbase : base ≤ w.heap.size) :
    ∃ v' w', (Builtin.append_ #[t, tn] ty #[v, .int k m]).run P w = .ok v' w' ∧ w'.ownsRow base e 1 v' (n + m) (xs ++ List.replicate m z) ∧ w.grownBy w' v.ownBlock := by
  have hw : IntKind.i64.wrap (m : Int) = m := by rw [IntKind.wrap_i64]; omega
  have h63' : ¬ (9223372036854775807 < ((n : Int) + (m : Int))) := by omega
  have hw0 : IntKind.i64.wrap 0 = 0 := by decide
  have h48i : ¬ (281474976710656 < (m : Int)) := by omega
  have hneg : ¬ ((m : Int) < 0) := by omega
  have hzc : ∀ q, (Builtin.zeroCells #[z] q) = (List.replicate q z).toArray := by
    intro q
    apply Array.ext
    · simp [Builtin.zeroCells]
    · intro j h1 h2
      simp [Builtin.zeroCells, Nat.mod_one]
  have hlen : (xs ++ List.replicate m z).length = (n + m) * 1 := by rw [List.length_append, hown.1, List.length_replicate, Nat.mul_one, Nat.mul_one]
  have happ : ∀ (wx : World), (if m * 1 = 0 then (pure #[] : Sem (Array Value)) else do pure (Builtin.zeroCells (← zeroValue e).cells m)).run P wx = .ok (List.replicate m z).toArray wx := by
    intro wx
    by_cases h0 : m = 0
    · subst h0; simp
    · simp [h0, zeroValue, typeInfo, hi, hz, hzs, hzc]
  have grown : ∀ (old : Nat), old < n + m → ∀ (row : Option Nat),
      (w.drew.alloc (.cells (xs.toArray ++ (List.replicate m z).toArray ++ Builtin.zeroCells #[z] (grownCap w (n + m) old e - (n + m))) e)).ownsRow base e 1
        (.slice (some ⟨w.heap.size, 0, none⟩) (n + m) (grownCap w (n + m) old e)) (n + m) (xs ++ List.replicate m z) ∧
      w.grownBy (w.drew.alloc (.cells (xs.toArray ++ (List.replicate m z).toArray ++ Builtin.zeroCells #[z] (grownCap w (n + m) old e - (n + m))) e)) row := by
    intro old ho row
    have hge := grownCap_ge w (n + m) old e
    have hcm : grownCap w (n + m) old e ≤ maxLen := grownCap_le_maxLen w (n + m) old e (by simp only [maxLen]; omega)
    refine ⟨⟨hlen, .inr ⟨w.heap.size, _, _, rfl, hbase, heap_alloc_new w.drew _, hge, hcm, ?_, ?_⟩⟩, ⟨rfl, rfl, rfl, by simp, fun k hk _ => heap_alloc_old w.drew _ k hk⟩⟩
    · have hx := hown.1
      simp only [Array.size_append, List.size_toArray, size_zeroCells, List.length_replicate, hx]
      simp
      omega
    · simp only [Array.toList_append, List.append_assoc]
      rw [← List.append_assoc, ← hlen]
      exact List.take_left
  rcases hown.2 with ⟨rfl, rfl⟩ | ⟨g, cap, cur, rfl, hbg, hg, hnc, hcm, hcs, htake⟩
  · have hx : xs = [] := List.eq_nil_of_length_eq_zero (by simpa using hown.1)
    subst hx
    by_cases h0 : m = 0
    · subst h0
      refine ⟨.slice none 0 0, w, ?_, World.ownsRow_nil w base e 1, ⟨rfl, rfl, rfl, Nat.le_refl _, fun _ _ _ => rfl⟩⟩
      simp [Builtin.append_, run_underlying ht, run_underlying htn, sizeOf, typeInfo, hi, hby, asInt, asIntOf, hw0]
    · have hgr := grown 0 (by omega) (Value.ownBlock (.slice none 0 0))
      simp only [Nat.zero_add, List.nil_append, Array.empty_append] at hgr ⊢
      refine ⟨_, _, ?_, hgr.1, hgr.2⟩
      have h48' : ¬ (281474976710656 < Builtin.nextslicecap m 0) := by rw [nextslicecap_zero (by omega)]; omega
      have h63'' : ¬ (9223372036854775807 < (m : Int)) := by omega
      simp [Builtin.append_, run_underlying ht, run_underlying htn, sizeOf, typeInfo, zeroValue, hi, hz, hsize, hby, hzs, asInt, asIntOf, hw, h0, hneg, h63'', h48', h48i, Question.forced, run_firstCells_none, newRow, grownCap, hzc]
  · by_cases hroom : n + m ≤ cap
    · have hst := run_storeCells_at P g (n * 1) e (List.replicate m z) 0 cur w hg (by simp; omega) (fun u hu => by rw [List.eq_of_mem_replicate hu]; exact h1)
      simp only [Nat.add_zero, Nat.mul_one] at hst
      refine ⟨_, _, ?_, ⟨hlen, .inr ⟨g, cap, _, rfl, hbg, setRow_heap w g cur (cur.toList.take n ++ List.replicate m z ++ cur.toList.drop (n + m)).toArray e _ hg, hroom, hcm, ?_, ?_⟩⟩, ⟨rfl, rfl, rfl, by simp, fun k _ hk => setRow_other w g k _ (fun e => hk (by simp [Value.ownBlock, e]))⟩⟩
      · by_cases h0 : m = 0
        · subst h0
          simp at hst
          simp [Builtin.append_, run_underlying ht, run_underlying htn, sizeOf, typeInfo, hi, hsize, hby, asInt, asIntOf, hw0, hnc, Addr.add_lit, hst]
        · simp at hst
          simp [Builtin.append_, run_underlying ht, run_underlying htn, sizeOf, typeInfo, zeroValue, hi, hz, hsize, hby, hzs, asInt, asIntOf, hw, h0, hneg, h48i, hroom, Addr.add_lit, hzc, hst]
      · simp only [List.size_toArray, List.length_append, List.length_take, List.length_drop, Array.length_toList, List.length_replicate]
        omega
      · simp only [Nat.mul_one] at htake hlen ⊢
        rw [htake, ← hlen]
        exact List.take_left
    · have holds : ∀ j u, xs[j]? = some u → w.cell? ((⟨g, 0, none⟩ : Addr).add j) = some u := hown.cells (g := g) rfl
      have hgr := grown cap (by omega) (Value.ownBlock (.slice (some ⟨g, 0, none⟩) n cap))
      refine ⟨_, _, ?_, hgr.1, hgr.2⟩
      have hfc := run_firstCells_some (P := P) w.drew 1 n ⟨g, 0, none⟩ n cap xs (by rw [hown.1]) (by simpa using holds)
      have hfit := growslice_fits (need := n + m) (old := cap) (bytes := 1) (by omega) (by omega)
      have h48' : ¬ (281474976710656 < Builtin.nextslicecap (n + m) cap) := by simp at hfit; omega
      have h0 : ¬ (m = 0) := by omega
      simp [Builtin.append_, run_underlying ht, run_underlying htn, sizeOf, typeInfo, zeroValue, hi, hz, hsize, hby, hzs, asInt, asIntOf, hw, h0, hneg, h63', h48', h48i, hroom, Question.forced, newRow, grownCap, hzc, hfc]
end
end Go.Proofs.YbulkacdsFmt
