/- A key is loaded as one step: the thirty-two cells are never written out in a walk. -/
import Derived.Test.YbulkacccState
import Derived.Laws.IdiomRangeMap
set_option linter.unusedVariables false
set_option linter.unusedSimpArgs false
namespace Go.Proofs.Ybulkaccc
open Go.RowKit

/-- The load of a key, shut. -/
def keyLoad (a : Addr) : Sem Value := loadVar 52 a
theorem loadVar52 (a : Addr) : loadVar 52 a = keyLoad a := rfl

theorem key_load (w : World) (b j : Nat) (p q : Int) (h : ∀ k, k < 32 → w.cell? ⟨b, j + k, none⟩ = (kb p q)[k]?) : (keyLoad ⟨b, j, none⟩).run Yba.prog w = .ok (.agg (kb p q)) w := by
  have hsz : (kb p q).toList.length = 32 := rfl
  have hl : (loadCells ⟨b, j, none⟩ (kb p q).toList.length).run Yba.prog w = .ok (kb p q).toList.toArray w :=
    run_loadCells_list (P := Yba.prog) w ⟨b, j, none⟩ (kb p q).toList (fun k v hv => by
      rw [Addr.add_lit]
      have hk : k < 32 := by
        have := (List.getElem?_eq_some_iff.1 hv).1
        omega
      rw [h k hk]
      simpa using hv)
  have hi : (Yba.prog.info? 52).map (·.size) = some 32 := by kernel_rfl
  cases hq : Yba.prog.info? 52 with
  | none => rw [hq] at hi; simp at hi
  | some i =>
    have hs : i.size = 32 := by rw [hq] at hi; simpa using hi
    have hagg : (isAgg 52).run Yba.prog w = .ok true w := by
      unfold isAgg
      rw [Sem.run_bind, run_underlying Yba.underlying52 w]
      rfl
    rw [hsz] at hl
    simp [keyLoad, loadVar, Sem.run_bind, hagg, sizeOf, typeInfo, hq, hs, hl]

theorem drewN_cell (w : World) (m : Nat) (a : Addr) : (w.drewN m).cell? a = w.cell? a := World.cell?_of_block (w := w) (get_drewN w m a.block)

theorem len_map (w : World) (t k e ty : TypeId) (hu : Yba.prog.underlying t = some (.map k e)) (m : Nat) (es : Array MapEntry) (c : Nat) (h : w.heap[m]? = some (.map es c)) :
    (Builtin.len_ #[t] ty #[.map (some m)]).run Yba.prog w = .ok (.int .i64 es.size) w := by
  simp [Builtin.len_, run_underlying hu, MapKept.run_getObj_map h]
  rfl

theorem i65 : Yba.prog.info? 65 = some Yba.t65 := by kernel_rfl
theorem next_empty (w : World) (ty : TypeId) (bm c : Nat) (h : w.heap[bm]? = some (.map #[] c)) :
    (Instr.next (.pointer (some ⟨w.heap.size, 0, none⟩)) false ty).run Yba.prog (w.alloc (.mapIter (some bm) c #[] c)) = .ok (.tuple #[.bool false]) (w.alloc (.mapIter (some bm) c #[] c)) := by
  rcases run_next_map (P := Yba.prog) w ty bm c c #[] #[] c h (by simp) (Nat.le_refl _) with ⟨_, h1⟩ | ⟨e, he, _⟩
  · exact h1
  · simp [leftOf] at he
end Go.Proofs.Ybulkaccc
