/- What the law's last loop reads. -/
import Derived.Test.YbulkacccAft
set_option linter.unusedVariables false
set_option linter.unusedSimpArgs false
namespace Go.Proofs.Ybulkaccc
open Go.RowKit Go.WideMaps Go.MapKept

theorem Own.s2 {w : World} {B O S FB mR mS L lo hi : Nat} {ob sb : Int} (h : Own w B O S FB mR mS L lo hi ob sb) (hle : lo ≤ hi) : w.cell? ⟨S, 2, none⟩ = some (.pointer (some ⟨L, 0, none⟩)) := by
  by_cases e : lo = hi
  · obtain ⟨_, ⟨sc, h1, h2⟩, _⟩ := h.2 e
    exact h1.cell _ _ h2
  · obtain ⟨oc, s⟩ := h.1 (by omega)
    exact s.hS.cell 2 _ rfl
theorem Own.o4 {w : World} {B O S FB mR mS L lo hi : Nat} {ob sb : Int} (h : Own w B O S FB mR mS L lo hi ob sb) (hle : lo ≤ hi) : w.cell? ⟨O, 4, none⟩ = some (.map (some mR)) := by
  by_cases e : lo = hi
  · obtain ⟨⟨oc, h1, h2, _⟩, _⟩ := h.2 e
    exact h1.cell _ _ h2
  · obtain ⟨oc, s⟩ := h.1 (by omega)
    exact s.hO.cell _ _ s.o4
theorem i29 : Yba.prog.info? 29 = some Yba.t29 := by kernel_rfl
theorem eqSome67 (wx : World) (a : Addr) : (binOp .eql 67 (.pointer (some a)) (.pointer none)).run Yba.prog wx = .ok (.bool false) wx := by kernel_rfl
theorem eqNil67 (wx : World) : (binOp .eql 67 (.pointer none) (.pointer none)).run Yba.prog wx = .ok (.bool true) wx := by kernel_rfl
theorem add_block (x : Addr) (k : Nat) : (x.add k).block = x.block := by unfold Addr.add; split <;> rfl
def nmOf (len1 : Nat) (sel : Nat → Nat) (k : Nat) : ByteArray := name3 (if k < len1 then sel k % 3 else 0)

section
variable {w : World} {B S mR mS L : Nat} {nm : Nat → ByteArray} {ln : Nat → Nat} {F : Where} {eb : Nat → Nat} {t k j : Nat}

theorem Held.drewN (h : Held w B S mR mS L nm ln F eb t k) (hB : B ≤ w.heap.size) (m : Nat) : Held (w.drewN m) B S mR mS L nm ln F eb t k :=
  h.keep (Kept.of_only (only_drewN (Only.refl [] w) m) hB (by simp) : Kept [] [] B w (w.drewN m)) (by decide) (by decide) (by decide) (by decide) (by decide) (by simp) (by simp)

theorem fin_ans (h : Held w B S mR mS L nm ln F eb t k) (hB : B ≤ w.heap.size) (hj : j < k) : w.cell? ⟨F.hb j, 0, none⟩ = some (.string (nm j)) ∧ ∀ m, (keyLoad ⟨F.hb j, 1, none⟩).run Yba.prog (w.drewN m) = .ok (.agg (kb (kp j) (kq j))) (w.drewN m) :=
  ⟨(h.ans j hj).cells.1, fun m => ((h.drewN hB m).ans j hj).cells.2.2.2.2.2⟩

theorem fin_in (h : Held w B S mR mS L nm ln F eb t k) (hB : B ≤ w.heap.size) (hk : k ≤ 1024) (hs : (nm j).size ≤ maxLen) (ht : t ≤ j) (hj : j < k) :
    ∃ R l A, (∀ m, (Instr.lookup 31 (.map (some mR)) (.string (nm j)) false).run Yba.prog (w.drewN m) = .ok (.pointer (some ⟨R, 0, none⟩)) (w.drewN m)) ∧ w.cell? ⟨R, 0, none⟩ = some (.map (some l)) ∧
      (∀ m, (Instr.lookup 68 (.map (some l)) (.agg (kb (kp j) (kq j))) false).run Yba.prog (w.drewN m) = .ok (.pointer (some ⟨A, 0, none⟩)) (w.drewN m)) := by
  obtain ⟨rc, hrc, rc0, _⟩ := h.reps.rep j ht hj
  obtain ⟨l, hl⟩ := key_ok j (by omega)
  exact ⟨_, _, F.ab j, fun m => (h.drewN hB m).reps.top.hit strLaw Yba.underlying31 (str_key _ hs) ⟨j, ht, hj, rfl, rfl⟩, hrc.cell _ _ rc0, fun m => ((h.drewN hB m).reps.lst j ht hj).hit keyLaw Yba.underlying68 hl ⟨j, ht, hj, rfl, rfl, rfl⟩⟩

theorem fin_out (h : Held w B S mR mS L nm ln F eb t k) (hB : B ≤ w.heap.size) (hk : k ≤ 1024) (hs : (nm j).size ≤ maxLen) (ht : j < t) (hj : j < k) :
    (∃ R l, (∀ m, (Instr.lookup 31 (.map (some mR)) (.string (nm j)) false).run Yba.prog (w.drewN m) = .ok (.pointer (some ⟨R, 0, none⟩)) (w.drewN m)) ∧ w.cell? ⟨R, 0, none⟩ = some (.map (some l)) ∧
      (∀ m, (Instr.lookup 68 (.map (some l)) (.agg (kb (kp j) (kq j))) false).run Yba.prog (w.drewN m) = .ok (.pointer none) (w.drewN m))) ∨
    (∀ m, (Instr.lookup 31 (.map (some mR)) (.string (nm j)) false).run Yba.prog (w.drewN m) = .ok (.pointer none) (w.drewN m)) := by
  obtain ⟨l, hl⟩ := key_ok j (by omega)
  by_cases hex : ∃ i, t ≤ i ∧ i < k ∧ nm i = nm j
  · obtain ⟨i, i1, i2, i3⟩ := hex
    obtain ⟨rc, hrc, rc0, _⟩ := h.reps.rep i i1 i2
    refine .inl ⟨_, _, fun m => (h.drewN hB m).reps.top.hit strLaw Yba.underlying31 (str_key _ hs) ⟨i, i1, i2, by rw [i3], rfl⟩, hrc.cell _ _ rc0, fun m => ((h.drewN hB m).reps.lst i i1 i2).miss keyLaw Yba.underlying68 hl ?_ (by kernel_rfl)⟩
    rintro v ⟨i', a, b, _, c, _⟩
    have := K_inj (by omega) (by omega) c
    omega
  · refine .inr fun m => (h.drewN hB m).reps.top.miss strLaw Yba.underlying31 (str_key _ hs) ?_ (by kernel_rfl)
    rintro v ⟨i, a, b, c, _⟩
    exact hex ⟨i, a, b, (Value.string.inj c).symm⟩
end
end Go.Proofs.Ybulkaccc
