/- Behind the first loop: the share is counted; what boundLocked is told. -/
import Derived.Test.YbulkacccLaw0
set_option linter.unusedVariables false
set_option linter.unusedSimpArgs false
namespace Go.Proofs.Ybulkaccc
open Go.RowKit Go.WideMaps Go.MapKept

def Row (w : World) (HS n : Nat) (hb : Nat → Nat) : Prop := ∃ cs, At w HS cs 54 ∧ cs.size = n ∧ ∀ j, j < n → cs[j]? = some (.pointer (some ⟨hb j, 0, none⟩))
theorem Row.keep {T : List TypeId} {M : List Nat} {B HS n : Nat} {hb : Nat → Nat} {w w' : World} (h : Row w HS n hb) (k : Kept T M B w w') (ht : 54 ∉ T) : Row w' HS n hb := by
  obtain ⟨cs, q1, q2⟩ := h
  exact ⟨cs, k.cells _ _ _ ht q1, q2⟩
theorem Row.cell {HS n : Nat} {hb : Nat → Nat} {w : World} (h : Row w HS n hb) {j : Nat} (hj : j < n) : w.cell? ⟨HS, j, none⟩ = some (.pointer (some ⟨hb j, 0, none⟩)) := by
  obtain ⟨cs, q1, q2, q3⟩ := h
  exact q1.cell _ _ (q3 j hj)

structure Aft (w0 w : World) (O S mR mS mP L HS n : Nat) (nm : Nat → ByteArray) (ln : Nat → Nat) (F : Where) (eb : Nat → Nat) (FB : Nat) (f : Value) (sb : Int) : Prop where
  hO : At w O (ocs mR mS mP f 0 0) 49
  hS : At w S #[sx, .int .i64 sb, .pointer (some ⟨L, 0, none⟩), .int .i64 0] 29
  held : Held w w0.heap.size S mR mS L nm ln F eb 0 n
  row : Row w HS n F.hb
  bel : Below w0.heap.size w0 w
  bO : w0.heap.size ≤ O ∧ w0.heap.size ≤ S ∧ w0.heap.size ≤ mS ∧ w0.heap.size ≤ FB
  sh : 0 < n → f = .slice (some ⟨FB, 0, none⟩) 1 1 ∧ sb = (cum ln n : Int) ∧ At w FB #[.pointer (some ⟨S, 0, none⟩)] 25 ∧ KMap w 9 mS (fun y u => y = sx ∧ u = .pointer (some ⟨S, 0, none⟩))
  no : n = 0 → f = .slice none 0 0 ∧ KMap w 9 mS (fun _ _ => False)

section
variable {w0 w : World} {N0 O S mR mS mP L HS n : Nat} {nm : Nat → ByteArray} {ln : Nat → Nat} {F : Where} {eb : Nat → Nat}

theorem aft_zero (C : Cst w0 w N0 O S mR mS mP L HS n F.hb n) (hd : Held w w0.heap.size S mR mS L nm ln F eb 0 n) (h : n = 0) : Aft w0 w O S mR mS mP L HS n nm ln F eb O (.slice none 0 0) 0 :=
  ⟨C.hO, C.hS, hd, C.hH, C.bel, ⟨C.bO.1, C.bO.2.1, C.bO.2.2.1, C.bO.1⟩, fun h' => by omega, fun _ => ⟨rfl, C.hM⟩⟩

theorem aft_pos (C : Cst w0 w N0 O S mR mS mP L HS n F.hb n) (hd : Held w w0.heap.size S mR mS L nm ln F eb 0 n) (h : 0 < n) (x : World) (hx : x = w.setCell ⟨S, 1, none⟩ (.int .i64 (cum ln n : Int))) :
    ∃ y, (Instr.mapUpdate 32 (.map (some mS)) sx (.pointer (some ⟨S, 0, none⟩))).run Yba.prog x = .ok () y ∧ x.cell? ⟨O, 5, none⟩ = some (.map (some mS)) ∧ O < y.heap.size ∧ y.cell? ⟨O, 6, none⟩ = some (.slice none 0 0) ∧ y.frozen? ⟨O, 6, none⟩ = false ∧
      ∀ z, z = (y.setCell ⟨O, 6, none⟩ (.slice (some ⟨y.heap.size, 0, none⟩) 1 1)).alloc (.cells #[.pointer (some ⟨S, 0, none⟩)] 25) →
        Aft w0 z O S mR mS mP L HS n nm ln F eb y.heap.size (.slice (some ⟨y.heap.size, 0, none⟩) 1 1) (cum ln n : Int) := by
  have hB : w0.heap.size ≤ w.heap.size := C.bel.size
  have O1 : Only [S] w x := by rw [hx]; exact (Only.refl _ w).setCell _ (by simp) _
  have K1 : Kept [29] [] w0.heap.size w x := Kept.of_only O1 hB (by
    intro b hb
    simp only [List.mem_cons, List.not_mem_nil, or_false] at hb
    subst hb
    exact ⟨C.bO.2.1, .inl ⟨_, _, C.hS, by simp⟩⟩)
  have hSx : At x S #[sx, .int .i64 (cum ln n : Int), .pointer (some ⟨L, 0, none⟩), .int .i64 0] 29 := by rw [hx]; exact C.hS.same 1 _
  have hOx := K1.cells _ _ _ (by decide) C.hO
  have hMx := C.hM.keep K1 (by simp)
  obtain ⟨y, hy, t, Oy⟩ := hMx.put strLaw Yba.underlying32 sx_key (fun v hv => hv) (.pointer (some ⟨S, 0, none⟩))
  have hBx : w0.heap.size ≤ x.heap.size := Nat.le_trans hB O1.size
  have K2 : Kept [] [mS] w0.heap.size x y := Kept.of_only Oy hBx (by
    intro b hb
    simp only [List.mem_cons, List.not_mem_nil, or_false] at hb
    subst hb
    obtain ⟨es, c, q, _⟩ := hMx
    exact ⟨C.bO.2.2.1, .inr ⟨by simp, es, c, q⟩⟩)
  have hOy := K2.cells _ _ _ (by decide) hOx
  refine ⟨y, hy, hOx.cell 5 _ rfl, hOy.lt, hOy.cell 6 _ rfl, hOy.loose 6, ?_⟩
  intro z hz
  have hBy : w0.heap.size ≤ y.heap.size := Nat.le_trans hBx Oy.size
  have O3 : Only [O] y z := by rw [hz]; exact ((Only.refl _ y).setCell _ (by simp) _).alloc _
  have K3 : Kept [49] [] w0.heap.size y z := Kept.of_only O3 hBy (by
    intro b hb
    simp only [List.mem_cons, List.not_mem_nil, or_false] at hb
    subst hb
    exact ⟨C.bO.1, .inl ⟨_, _, hOy, by simp⟩⟩)
  have hOz : At z O (ocs mR mS mP (.slice (some ⟨y.heap.size, 0, none⟩) 1 1) 0 0) 49 := by rw [hz]; exact (hOy.same 6 _).keep ((Only.refl [] _).alloc _) (by simp)
  have hne : y.heap.size ≠ O := by have := hOy.lt; omega
  have hFz : At z y.heap.size #[.pointer (some ⟨S, 0, none⟩)] 25 := by
    rw [hz]
    have := heap_alloc_new (y.setCell ⟨O, 6, none⟩ (.slice (some ⟨y.heap.size, 0, none⟩) 1 1)) (.cells #[.pointer (some ⟨S, 0, none⟩)] 25)
    unfold At
    simpa using this
  have hl : ∀ i, 0 ≤ i → i < n → F.lm (nm i) ∉ [mS] ∧ F.fm (nm i) ∉ [mS] := fun i a b => by
    have d := hd.reps.d3 i a b
    simp [d.2.2.1, d.2.2.2]
  have hd3 := ((hd.keep K1 (by decide) (by decide) (by decide) (by decide) (by decide) (by simp) (by simp)).keep K2 (by decide) (by decide) (by decide) (by decide) (by decide) (by simp [hd.reps.d4]) hl).keep K3 (by decide) (by decide) (by decide) (by decide) (by decide) (by simp) (by simp)
  have rw0 : Row w HS n F.hb := C.hH
  refine ⟨hOz, K3.cells _ _ _ (by decide) (K2.cells _ _ _ (by decide) hSx), hd3, ((rw0.keep K1 (by decide)).keep K2 (by decide)).keep K3 (by decide), ((C.bel.trans K1.bel).trans K2.bel).trans K3.bel, ⟨C.bO.1, C.bO.2.1, C.bO.2.2.1, hBy⟩, fun _ => ⟨rfl, rfl, hFz, ?_⟩, fun h' => by omega⟩
  refine (t.keep K3 (by simp)).congr fun a u => ?_
  simp

theorem aft_own {FB : Nat} {f : Value} {sb : Int} (A : Aft w0 w O S mR mS mP L HS n nm ln F eb FB f sb) (b l : Int) (x : World) (hx : x = (w.setCell ⟨O, 7, none⟩ (.int .i64 b)).setCell ⟨O, 8, none⟩ (.int .u64 l)) :
    Own x w0.heap.size O S FB mR mS L 0 n b (cum ln n : Int) ∧ Held x w0.heap.size S mR mS L nm ln F eb 0 n ∧ Row x HS n F.hb ∧ Below w0.heap.size w0 x := by
  have hB : w0.heap.size ≤ w.heap.size := A.bel.size
  have O1 : Only [O] w x := by rw [hx]; exact ((Only.refl _ w).setCell _ (by simp) _).setCell _ (by simp) _
  have K1 : Kept [49] [] w0.heap.size w x := Kept.of_only O1 hB (by
    intro c hc
    simp only [List.mem_cons, List.not_mem_nil, or_false] at hc
    subst hc
    exact ⟨A.bO.1, .inl ⟨_, _, A.hO, by simp⟩⟩)
  have hO : At x O (ocs mR mS mP f b l) 49 := by rw [hx]; exact (A.hO.same 7 _).same 8 _
  have hS := K1.cells _ _ _ (by decide) A.hS
  refine ⟨⟨fun h => ?_, fun h => ?_⟩, A.held.keep K1 (by decide) (by decide) (by decide) (by decide) (by decide) (by simp) (by simp), A.row.keep K1 (by decide), A.bel.trans K1.bel⟩
  · obtain ⟨rfl, rfl, hF, hM⟩ := A.sh h
    exact ⟨_, hO, rfl, rfl, rfl, rfl, hS, K1.cells _ _ _ (by decide) hF, hM.keep K1 (by simp), ⟨A.bO.1, A.bO.2.1, A.bO.2.2.2, A.bO.2.2.1⟩⟩
  · obtain ⟨rfl, hM⟩ := A.no h.symm
    exact ⟨⟨_, hO, rfl, rfl, ⟨_, _, rfl⟩, rfl⟩, ⟨_, hS, rfl⟩, hM.keep K1 (by simp)⟩
end
end Go.Proofs.Ybulkaccc
