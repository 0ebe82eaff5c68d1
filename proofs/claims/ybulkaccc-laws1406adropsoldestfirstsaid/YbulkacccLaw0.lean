/- The law's set-up: what stands before the first loop. -/
import Derived.Test.YbulkacccCst
set_option linter.unusedVariables false
set_option linter.unusedSimpArgs false
namespace Go.Proofs.Ybulkaccc
open Go.RowKit Go.WideMaps Go.MapKept

def nils (n : Nat) : Array Value := madeCells #[.pointer none] n
def zers (n : Nat) : Array Value := madeCells #[.int .u8 0] n

theorem i54 : Yba.prog.info? 54 = some Yba.t54 := by kernel_rfl
theorem i5 : Yba.prog.info? 5 = some Yba.t5 := by kernel_rfl
theorem mkHs (n : Nat) (h : n ≤ 1024) (w : World) : (Instr.makeSlice 50 (.int .i64 (n : Int)) (.int .i64 (n : Int))).run Yba.prog w = .ok (.slice (some ⟨w.heap.size, 0, none⟩) n n) (w.alloc (.cells (nils n) 54)) := by
  have hb : Yba.t54.bytes = 8 := rfl
  have hs : Yba.t54.size = 1 := rfl
  have := run_makeSlice (P := Yba.prog) w 50 54 Yba.t54 (.pointer none) Yba.underlying50 i54 rfl .i64 .i64 (n : Int) (n : Int) (by omega) (Int.le_refl _) (by rw [hs]; omega) (by rw [hb]; omega) (by omega)
  rw [this, hs]
  simp [nils, Value.cells]
theorem mkBody (n : Nat) (h : n < 256) (w : World) : (Instr.makeSlice 22 (.int .i64 (n : Int)) (.int .i64 (n : Int))).run Yba.prog w = .ok (.slice (some ⟨w.heap.size, 0, none⟩) n n) (w.alloc (.cells (zers n) 5)) := by
  have hb : Yba.t5.bytes = 1 := rfl
  have hs : Yba.t5.size = 1 := rfl
  have := run_makeSlice (P := Yba.prog) w 22 5 Yba.t5 (.int .u8 0) Yba.underlying22 i5 rfl .i64 .i64 (n : Int) (n : Int) (by omega) (Int.le_refl _) (by rw [hs]; omega) (by rw [hb]; omega) (by omega)
  rw [this, hs]
  simp [zers, Value.cells]

theorem setup (w w1 : World) (n : Nat) (nm : Nat → ByteArray) (ln : Nat → Nat) (F : Where) (eb : Nat → Nat) (h1 : At w1 (w.heap.size + 1) #[.pointer (some ⟨w.heap.size + 1, 0, none⟩), .pointer (some ⟨w.heap.size + 1, 0, none⟩), .pointer none, .nilIface, .int .i64 0] 82)
    (O1 : Only [] (w.alloc (.cells #[.string n0, .string n1, .string n2] 24)) w1) (W : World)
    (hW : W = (((((w1.alloc (.cells #[sx, .int .i64 0, .pointer (some ⟨w.heap.size + 1, 0, none⟩), .int .i64 0] 29)).alloc (.map #[] 0)).alloc (.map #[] 0)).alloc (.map #[] 0)).alloc
      (.cells (ocs (w1.heap.size + 1) (w1.heap.size + 1 + 1) (w1.heap.size + 1 + 1 + 1) (.slice none 0 0) 0 0) 49)).alloc (.cells (nils n) 54)) :
    Cst w W w.heap.size (w1.heap.size + 1 + 1 + 1 + 1) w1.heap.size (w1.heap.size + 1) (w1.heap.size + 1 + 1) (w1.heap.size + 1 + 1 + 1) (w.heap.size + 1) (w1.heap.size + 1 + 1 + 1 + 1 + 1) n F.hb 0 ∧
      Held W w.heap.size w1.heap.size (w1.heap.size + 1) (w1.heap.size + 1 + 1) (w.heap.size + 1) nm ln F eb 0 0 := by
  have hsz : w.heap.size + 1 < w1.heap.size := h1.lt
  have hN : At w1 w.heap.size #[.string n0, .string n1, .string n2] 24 := O1.at (by simp) (heap_alloc_new w _)
  have b1 : Below w.heap.size w w1 := ((Below.refl _ w).alloc (Nat.le_refl _) _).trans (O1.below (by simp) (by simp))
  have G : Only [] w1 W := by rw [hW]; exact ((((((Only.refl _ w1).alloc _).alloc _).alloc _).alloc _).alloc _).alloc _
  have at_ : ∀ (k : Nat) (o : Obj), W.heap[k]? = some o → W.heap[k]? = some o := fun _ _ h => h
  have g1 : W.heap[w1.heap.size]? = some (.cells #[sx, .int .i64 0, .pointer (some ⟨w.heap.size + 1, 0, none⟩), .int .i64 0] 29) := by
    rw [hW, Below.heap_alloc _ _ _ (by simp <;> omega), Below.heap_alloc _ _ _ (by simp <;> omega), Below.heap_alloc _ _ _ (by simp <;> omega), Below.heap_alloc _ _ _ (by simp <;> omega), Below.heap_alloc _ _ _ (by simp)]
    exact heap_alloc_new w1 _
  have g2 : W.heap[w1.heap.size + 1]? = some (.map #[] 0) := by
    rw [hW, Below.heap_alloc _ _ _ (by simp <;> omega), Below.heap_alloc _ _ _ (by simp <;> omega), Below.heap_alloc _ _ _ (by simp <;> omega), Below.heap_alloc _ _ _ (by simp)]
    have := heap_alloc_new (w1.alloc (.cells #[sx, .int .i64 0, .pointer (some ⟨w.heap.size + 1, 0, none⟩), .int .i64 0] 29)) (.map #[] 0)
    simpa using this
  have g3 : W.heap[w1.heap.size + 1 + 1]? = some (.map #[] 0) := by
    rw [hW, Below.heap_alloc _ _ _ (by simp <;> omega), Below.heap_alloc _ _ _ (by simp <;> omega), Below.heap_alloc _ _ _ (by simp)]
    have := heap_alloc_new ((w1.alloc (.cells #[sx, .int .i64 0, .pointer (some ⟨w.heap.size + 1, 0, none⟩), .int .i64 0] 29)).alloc (.map #[] 0)) (.map #[] 0)
    simpa using this
  have g5 : W.heap[w1.heap.size + 1 + 1 + 1 + 1]? = some (.cells (ocs (w1.heap.size + 1) (w1.heap.size + 1 + 1) (w1.heap.size + 1 + 1 + 1) (.slice none 0 0) 0 0) 49) := by
    rw [hW, Below.heap_alloc _ _ _ (by simp)]
    have := heap_alloc_new ((((w1.alloc (.cells #[sx, .int .i64 0, .pointer (some ⟨w.heap.size + 1, 0, none⟩), .int .i64 0] 29)).alloc (.map #[] 0)).alloc (.map #[] 0)).alloc (.map #[] 0)) (.cells (ocs (w1.heap.size + 1) (w1.heap.size + 1 + 1) (w1.heap.size + 1 + 1 + 1) (.slice none 0 0) 0 0) 49)
    simpa using this
  have g6 : W.heap[w1.heap.size + 1 + 1 + 1 + 1 + 1]? = some (.cells (nils n) 54) := by
    have := heap_alloc_new (((((w1.alloc (.cells #[sx, .int .i64 0, .pointer (some ⟨w.heap.size + 1, 0, none⟩), .int .i64 0] 29)).alloc (.map #[] 0)).alloc (.map #[] 0)).alloc (.map #[] 0)).alloc
      (.cells (ocs (w1.heap.size + 1) (w1.heap.size + 1 + 1) (w1.heap.size + 1 + 1 + 1) (.slice none 0 0) 0 0) 49)) (.cells (nils n) 54)
    rw [← hW] at this
    simpa using this
  refine ⟨⟨G.at (by simp) hN, g5, g1, KMap.made _ _ _ _ g3, ⟨_, g6, size_madeCells _ _, fun j h => by omega⟩, b1.trans (G.below (by simp) (by omega)), by omega, by omega, by omega, by omega⟩, ?_, ?_, fun i h => by omega⟩
  · refine ⟨Nat.le_refl _, ?_, fun i a b => by omega, fun i j a b => by omega, by omega, fun i a b => by omega⟩
    simpa using h1.keep G (by simp)
  · refine ⟨(KMap.made _ _ _ _ g2).congr ?_, fun i a b => by omega, fun i a b => by omega, fun i a b => by omega, fun i a b => by omega, fun i j a b => by omega, fun i j a b => by omega, fun i a b => by omega, by omega, by omega, fun i a b => by omega⟩
    intro y u
    simp only [iff_false]
    rintro ⟨j, _, j2, _⟩
    omega
end Go.Proofs.Ybulkaccc
