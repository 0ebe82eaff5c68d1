/- What stands fast while the law builds. -/
import Derived.Test.YbulkacccBuild
import Derived.Laws.MakeOwn
set_option linter.unusedVariables false
set_option linter.unusedSimpArgs false
namespace Go.Proofs.Ybulkaccc
open Go.RowKit Go.WideMaps Go.MapKept

def n0 : ByteArray := { data := #[97, 47, 114] }
def n1 : ByteArray := { data := #[98, 47, 114] }
def n2 : ByteArray := { data := #[97, 47, 115] }
def name3 (k : Nat) : ByteArray := if k = 0 then n0 else if k = 1 then n1 else n2
theorem name3_len (k : Nat) : (name3 k).size ≤ maxLen := by
  unfold name3
  have : ∀ s : ByteArray, s.size = 3 → s.size ≤ maxLen := fun s h => by rw [h]; simp [maxLen]
  split
  · exact this n0 rfl
  · split
    · exact this n1 rfl
    · exact this n2 rfl

def ocs (mR mS mP : Nat) (f : Value) (b l : Int) : Array Value :=
  #[.pointer none, .pointer none, .int .i32 0, .int .u32 0, .map (some mR), .map (some mS), f, .int .i64 b, .int .u64 l, .map (some mP), .map none, .pointer none]

structure Cst (w0 w : World) (N0 O S mR mS mP L HS n : Nat) (hb : Nat → Nat) (i : Nat) : Prop where
  hN : At w N0 #[.string n0, .string n1, .string n2] 24
  hO : At w O (ocs mR mS mP (.slice none 0 0) 0 0) 49
  hS : At w S #[sx, .int .i64 0, .pointer (some ⟨L, 0, none⟩), .int .i64 0] 29
  hM : KMap w 9 mS (fun _ _ => False)
  hH : ∃ cs, At w HS cs 54 ∧ cs.size = n ∧ ∀ j, j < i → cs[j]? = some (.pointer (some ⟨hb j, 0, none⟩))
  bel : Below w0.heap.size w0 w
  bO : w0.heap.size ≤ O ∧ w0.heap.size ≤ S ∧ w0.heap.size ≤ mS ∧ w0.heap.size ≤ HS

section
variable {w0 w w' : World} {N0 O S mR mS mP L HS n : Nat} {hb hb' : Nat → Nat} {i : Nat}
theorem Cst.keep {T : List TypeId} {M : List Nat} (h : Cst w0 w N0 O S mR mS mP L HS n hb i) (k : Kept T M w0.heap.size w w') (h1 : 24 ∉ T) (h2 : 49 ∉ T) (h3 : 29 ∉ T) (h4 : 54 ∉ T) (h5 : mS ∉ M) : Cst w0 w' N0 O S mR mS mP L HS n hb i := by
  obtain ⟨cs, q1, q2⟩ := h.hH
  exact ⟨k.cells _ _ _ h1 h.hN, k.cells _ _ _ h2 h.hO, k.cells _ _ _ h3 h.hS, h.hM.keep k h5, ⟨cs, k.cells _ _ _ h4 q1, q2⟩, h.bel.trans k.bel, h.bO⟩
theorem Cst.congr (h : Cst w0 w N0 O S mR mS mP L HS n hb i) (e : ∀ j, j < i → hb' j = hb j) : Cst w0 w N0 O S mR mS mP L HS n hb' i := by
  obtain ⟨cs, q1, q2, q3⟩ := h.hH
  exact ⟨h.hN, h.hO, h.hS, h.hM, ⟨cs, q1, q2, fun j hj => by rw [e j hj]; exact q3 j hj⟩, h.bel, h.bO⟩
theorem Cst.put (h : Cst w0 w N0 O S mR mS mP L HS n hb i) (hi : i < n) (H : Nat) (hH : hb i = H) : Cst w0 (w.setCell ⟨HS, i, none⟩ (.pointer (some ⟨H, 0, none⟩))) N0 O S mR mS mP L HS n hb (i + 1) := by
  obtain ⟨cs, q1, q2, q3⟩ := h.hH
  refine ⟨h.hN.other (h.hN.ne q1 (by decide)) _ _, h.hO.other (h.hO.ne q1 (by decide)) _ _, h.hS.other (h.hS.ne q1 (by decide)) _ _, ?_, ⟨_, q1.same i _, by simp [q2], fun j hj => ?_⟩, h.bel.setCell h.bO.2.2.2 _, h.bO⟩
  · obtain ⟨es, c, m1, m2⟩ := h.hM
    exact ⟨es, c, (Below.heap_setCell _ _ _ _ (fun e => q1.neMap m1 e.symm)).trans m1, m2⟩
  · by_cases e : j = i
    · subst e
      rw [Array.getElem?_setIfInBounds_self_of_lt (by omega), hH]
    · rw [Array.getElem?_setIfInBounds_ne (fun e' => e e'.symm)]
      exact q3 j (by omega)
end

/-- Before the repository is looked up: the answer k lies in the list, not yet in the maps. -/
structure Mid (w0 w : World) (N0 O S mR mS mP L HS n : Nat) (nm : Nat → ByteArray) (ln : Nat → Nat) (F : Where) (eb : Nat → Nat) (k KB H : Nat) : Prop where
  cst : Cst w0 w N0 O S mR mS mP L HS n F.hb k
  ring : Ring w w0.heap.size L eb F.hb 0 (k + 1)
  reps : Reps w w0.heap.size mR mS nm F 0 k
  ans : ∀ j, j < k + 1 → Ans w (F.hb j) (nm j) j (ln j) S (eb j)
  hH : F.hb k = H
  hK : At w KB (kb (kp k) (kq k)) 52
/-- The repository is there. -/
structure MidC (w0 w : World) (N0 O S mR mS mP L HS n : Nat) (nm : Nat → ByteArray) (ln : Nat → Nat) (F : Where) (eb : Nat → Nat) (k KB H : Nat) : Prop where
  cst : Cst w0 w N0 O S mR mS mP L HS n F.hb k
  ring : Ring w w0.heap.size L eb F.hb 0 (k + 1)
  reps : RepsC w w0.heap.size mR mS nm F k
  ans : ∀ j, j < k + 1 → Ans w (F.hb j) (nm j) j (ln j) S (eb j)
  hH : F.hb k = H
  hK : At w KB (kb (kp k) (kq k)) 52

section
variable {w0 w : World} {N0 O S mR mS mP L HS n : Nat} {nm : Nat → ByteArray} {ln : Nat → Nat} {F : Where} {eb : Nat → Nat} {k KB H : Nat}

/-- New blocks do no harm. -/
theorem grow {T : List TypeId} {M : List Nat} {B : Nat} {a b : World} (O : Only [] a b) (hB : B ≤ a.heap.size) : Kept T M B a b := Kept.of_only O hB (by simp)

theorem stage_new (C : Cst w0 w N0 O S mR mS mP L HS n F.hb k) (hd : Held w w0.heap.size S mR mS L nm ln F eb 0 k) (hk : k < 1024) (x : World) (G : Only [] w x) (a : Option Addr) (c : Nat) (u : Int) (KB : Nat)
    (aH : At x H (hcells (nm k) (kp k) (kq k) a (ln k) c S u) 65) (aK : At x KB (kb (kp k) (kq k)) 52) (hH : w0.heap.size ≤ H) :
    x.cell? ⟨S, 2, none⟩ = some (.pointer (some ⟨L, 0, none⟩)) ∧
    Calls Yba.prog 5 #[.pointer (some ⟨L, 0, none⟩), .iface 54 (.pointer (some ⟨H, 0, none⟩))] x fun e y => ∃ E, e = .returned (.pointer (some ⟨E, 0, none⟩)) ∧ y.cell? ⟨H, 78, none⟩ = some (.pointer none) ∧ y.frozen? ⟨H, 78, none⟩ = false ∧
      ∀ z, z = y.setCell ⟨H, 78, none⟩ (.pointer (some ⟨E, 0, none⟩)) → ∃ F' eb', Mid w0 z N0 O S mR mS mP L HS n nm ln F' eb' k KB H := by
  have hB : w0.heap.size ≤ w.heap.size := C.bel.size
  have hBx : w0.heap.size ≤ x.heap.size := Nat.le_trans hB G.size
  have C1 := C.keep (grow (T := []) (M := []) G hB) (by decide) (by decide) (by decide) (by decide) (by simp)
  have h1 := hd.keep (grow (T := []) (M := []) G hB) (by decide) (by decide) (by decide) (by decide) (by decide) (by simp) (by simp)
  refine ⟨C1.hS.cell 2 _ rfl, (push_any x w0.heap.size L eb F.hb 0 k H h1.ring hBx (by omega)).mono ?_⟩
  rintro e y ⟨E, rfl, hE, R, K1⟩
  have aY : At y H (hcells (nm k) (kp k) (kq k) a (ln k) c S u) 65 := K1.cells _ _ _ (by decide) aH
  refine ⟨E, rfl, aY.cell 78 _ rfl, aY.loose 78, ?_⟩
  intro z hz
  have aZ : At z H ((hcells (nm k) (kp k) (kq k) a (ln k) c S u).setIfInBounds 78 (.pointer (some ⟨E, 0, none⟩))) 65 := by rw [hz]; exact aY.same 78 _
  have OZ : Only [H] y z := by rw [hz]; exact (Only.refl _ y).setCell _ (by simp) _
  have hBy : w0.heap.size ≤ y.heap.size := Nat.le_trans hBx K1.size
  have K2 : Kept [65] [] w0.heap.size y z := Kept.of_only OZ hBy (by
    intro b hb
    simp only [List.mem_cons, List.not_mem_nil, or_false] at hb
    subst hb
    exact ⟨hH, .inl ⟨_, _, aY, by simp⟩⟩)
  have C2 := (C1.keep K1 (by decide) (by decide) (by decide) (by decide) (by simp)).keep K2 (by decide) (by decide) (by decide) (by decide) (by simp)
  have hbj : ∀ j, j < k → (F.ansAt k H).hb j = F.hb j := fun j hj => by
    have : j ≠ k := by omega
    simp [Where.ansAt, this]
  have hbk : (F.ansAt k H).hb k = H := by simp [Where.ansAt]
  refine ⟨F.ansAt k H, fun j => if j = k then E else eb j, C2.congr hbj, R.keep K2 (by decide) (by decide), ((h1.reps.keep K1 (by decide) (by decide) (by simp) (by simp)).keep K2 (by decide) (by decide) (by simp) (by simp)).ansAt H, fun j hj => ?_, hbk, K2.cells _ _ _ (by decide) (K1.cells _ _ _ (by decide) aK)⟩
  by_cases e : j = k
  · subst e
    rw [hbk]
    simp only [if_true]
    exact ans_of aZ
  · rw [hbj j (by omega)]
    simp only [e, if_false]
    obtain ⟨hc, q0, q1⟩ := (h1.ans j (by omega)).keep K1 (by decide)
    refine ⟨hc, OZ.at ?_ q0, q1⟩
    simp only [List.mem_singleton]
    rintro e'
    obtain ⟨hc2, q02, q12⟩ := h1.ans j (by omega)
    rw [e'] at q02
    have := q02.inj aH
    subst this
    have qq := q12.2.1
    have a1 := (qq 0 (by decide)).symm.trans (hcells_key _ _ _ _ _ _ _ _ 0 (by decide))
    have a2 := (qq 1 (by decide)).symm.trans (hcells_key _ _ _ _ _ _ _ _ 1 (by decide))
    rw [kb_get _ _ 0 (by decide), kb_get _ _ 0 (by decide)] at a1
    rw [kb_get _ _ 1 (by decide), kb_get _ _ 1 (by decide)] at a2
    simp [kp, kq] at a1 a2
    omega

/-- The repository is there already. -/
theorem stage_old (M : Mid w0 w N0 O S mR mS mP L HS n nm ln F eb k KB H) {j : Nat} (hj : j < k) (e : nm j = nm k) : MidC w0 w N0 O S mR mS mP L HS n nm ln F eb k KB H :=
  ⟨M.cst, M.ring, M.reps.old hj e, M.ans, M.hH, M.hK⟩

/-- A new repository. -/
theorem stage_rep (M : Mid w0 w N0 O S mR mS mP L HS n nm ln F eb k KB H) (hne : ∀ j, j < k → nm j ≠ nm k) (hsz : (nm k).size ≤ maxLen) (x : World)
    (hx : x = ((w.alloc (.map #[] 0)).alloc (.map #[] 0)).alloc (.cells #[.map (some w.heap.size), .map (some (w.heap.size + 1)), .bool false, .int .u64 0, .int .i64 0, .pointer none] 70)) :
    ∃ y, (Instr.mapUpdate 31 (.map (some mR)) (.string (nm k)) (.pointer (some ⟨w.heap.size + 1 + 1, 0, none⟩))).run Yba.prog x = .ok () y ∧ x.cell? ⟨O, 4, none⟩ = some (.map (some mR)) ∧
      ∃ F', F'.rb (nm k) = w.heap.size + 1 + 1 ∧ MidC w0 y N0 O S mR mS mP L HS n nm ln F' eb k KB H := by
  have hB : w0.heap.size ≤ w.heap.size := M.cst.bel.size
  have G : Only [] w x := by rw [hx]; exact (((Only.refl _ w).alloc _).alloc _).alloc _
  have hR : At x (w.heap.size + 1 + 1) #[.map (some w.heap.size), .map (some (w.heap.size + 1)), .bool false, .int .u64 0, .int .i64 0, .pointer none] 70 := by
    have := heap_alloc_new ((w.alloc (.map #[] 0)).alloc (.map #[] 0)) (.cells #[.map (some w.heap.size), .map (some (w.heap.size + 1)), .bool false, .int .u64 0, .int .i64 0, .pointer none] 70)
    rw [← hx] at this
    unfold At
    simpa using this
  have hl : x.heap[w.heap.size]? = some (.map #[] 0) := by
    rw [hx, Below.heap_alloc _ _ _ (by simp; omega), Below.heap_alloc _ _ _ (by simp)]
    exact heap_alloc_new w _
  have hf : x.heap[w.heap.size + 1]? = some (.map #[] 0) := by
    rw [hx, Below.heap_alloc _ _ _ (by simp)]
    have := heap_alloc_new (w.alloc (.map #[] 0)) (.map #[] 0)
    simpa using this
  have K0 : Kept [] [] w0.heap.size w x := grow G hB
  have C1 := M.cst.keep K0 (by decide) (by decide) (by decide) (by decide) (by simp)
  have R1 := M.reps.keep K0 (by decide) (by decide) (by simp) (by simp)
  obtain ⟨y, hy, t, Oy⟩ := R1.top.put strLaw Yba.underlying31 (str_key _ hsz) (by
    rintro v ⟨j, _, j2, j3, _⟩
    exact hne j j2 (Value.string.inj j3).symm) (.pointer (some ⟨w.heap.size + 1 + 1, 0, none⟩))
  have Ky : Kept [] [mR] w0.heap.size x y := Kept.of_only Oy (Nat.le_trans hB G.size) (by
    intro b hb
    simp only [List.mem_cons, List.not_mem_nil, or_false] at hb
    subst hb
    obtain ⟨es, c, q, _⟩ := R1.top
    exact ⟨R1.b1, .inr ⟨by simp, es, c, q⟩⟩)
  have hmR : mR < w.heap.size := M.reps.top.lt
  refine ⟨y, hy, C1.hO.cell 4 _ rfl, F.rep (nm k) (w.heap.size + 1 + 1) w.heap.size (w.heap.size + 1), (F.rep_new _ _ _ _).1, C1.keep Ky (by decide) (by decide) (by decide) (by decide) (by simp [M.reps.d4.symm]), (M.ring.keep K0 (by decide) (by decide)).keep Ky (by decide) (by decide), ?_, fun j hj => ((M.ans j hj).keep K0 (by decide)).keep Ky (by decide), M.hH, Ky.cells _ _ _ (by decide) (K0.cells _ _ _ (by decide) M.hK)⟩
  refine M.reps.new hB M.cst.hM.lt hne ((G.mono (by simp)).trans Oy) (by omega) (Nat.le_refl _) (by omega) (by omega) _ (Oy.at (by simp only [List.mem_singleton]; omega) hR) rfl rfl (Oy.at (by simp only [List.mem_singleton]; omega) hl) (Oy.at (by simp only [List.mem_singleton]; omega) hf) t

/-- The listing goes into the map; the answer into the row. -/
theorem stage_fill (M : MidC w0 w N0 O S mR mS mP L HS n nm ln F eb k KB H) (hk : k < 1024) (hn : k < n) :
    ∃ lm, F.rb (nm k) < w.heap.size ∧ w.cell? ⟨F.rb (nm k), 0, none⟩ = some (.map (some lm)) ∧ (keyLoad ⟨KB, 0, none⟩).run Yba.prog w.drew = .ok (.agg (kb (kp k) (kq k))) w.drew ∧
    (keyLoad ⟨KB, 0, none⟩).run Yba.prog (w.drew.alloc (.cells #[.pointer (some ⟨H, 0, none⟩), .pointer none] 73)) = .ok (.agg (kb (kp k) (kq k))) (w.drew.alloc (.cells #[.pointer (some ⟨H, 0, none⟩), .pointer none] 73)) ∧
    ∃ y, (Instr.mapUpdate 68 (.map (some lm)) (.agg (kb (kp k) (kq k))) (.pointer (some ⟨w.heap.size, 0, none⟩))).run Yba.prog (w.drew.alloc (.cells #[.pointer (some ⟨H, 0, none⟩), .pointer none] 73)) = .ok () y ∧
      (∃ v, y.cell? ⟨HS, k, none⟩ = some v) ∧ y.frozen? ⟨HS, k, none⟩ = false ∧
      ∀ z, z = y.setCell ⟨HS, k, none⟩ (.pointer (some ⟨H, 0, none⟩)) → (∃ a c, z.cell? ⟨H, 36, none⟩ = some (.slice a (ln k) c)) ∧ ∃ F', Cst w0 z N0 O S mR mS mP L HS n F'.hb (k + 1) ∧ Held z w0.heap.size S mR mS L nm ln F' eb 0 (k + 1) := by
  have hB : w0.heap.size ≤ w.heap.size := M.cst.bel.size
  obtain ⟨rc, hrc, rc0, _⟩ := M.reps.rep k (by omega)
  obtain ⟨l, hl⟩ := key_ok k hk
  obtain ⟨x, hx⟩ : ∃ x, x = w.drew.alloc (.cells #[.pointer (some ⟨H, 0, none⟩), .pointer none] 73) := ⟨_, rfl⟩
  have G : Only [] w x := by rw [hx]; exact (Only.refl _ w).drew.alloc _
  have K0 : Kept [] [] w0.heap.size w x := grow G hB
  have hA : At x w.heap.size #[.pointer (some ⟨H, 0, none⟩), .pointer none] 73 := by rw [hx]; exact heap_alloc_new w.drew _
  have aK : At x KB (kb (kp k) (kq k)) 52 := K0.cells _ _ _ (by decide) M.hK
  have lx : KMap x 52 (F.lm (nm k)) _ := (M.reps.lst k (by omega)).keep K0 (by simp)
  obtain ⟨y, hy, t, Oy⟩ := lx.put keyLaw Yba.underlying68 hl (by
    rintro v ⟨j, _, j2, _, j4, _⟩
    have := K_inj (by omega) (by omega) j4
    omega) (.pointer (some ⟨w.heap.size, 0, none⟩))
  have d3 := M.reps.d3 k (by omega)
  have Ky : Kept [] [F.lm (nm k)] w0.heap.size x y := Kept.of_only Oy (Nat.le_trans hB G.size) (by
    intro b hb
    simp only [List.mem_cons, List.not_mem_nil, or_false] at hb
    subst hb
    obtain ⟨es, c, q, _⟩ := lx
    exact ⟨M.reps.b2 k (by omega), .inr ⟨by simp, es, c, q⟩⟩)
  have Cy := (M.cst.keep K0 (by decide) (by decide) (by decide) (by decide) (by simp)).keep Ky (by decide) (by decide) (by decide) (by decide) (by simp [d3.2.2.1.symm])
  have Ry := (M.ring.keep K0 (by decide) (by decide)).keep Ky (by decide) (by decide)
  have Ay : ∀ j, j < k + 1 → Ans y (F.hb j) (nm j) j (ln j) S (eb j) := fun j hj => ((M.ans j hj).keep K0 (by decide)).keep Ky (by decide)
  have lmlt : F.lm (nm k) < w.heap.size := (M.reps.lst k (by omega)).lt
  have Py : Reps y w0.heap.size mR mS nm (F.put k w.heap.size) 0 (k + 1) := M.reps.fill hB ((G.mono (by simp)).trans Oy) (Nat.le_refl _) (by
    rw [M.hH]
    exact Oy.at (by simp only [List.mem_singleton]; omega) hA) t
  rw [← hx]
  refine ⟨_, hrc.lt, hrc.cell _ _ rc0, key_at (w := w.drew) M.hK, key_at aK, y, hy, ?_⟩
  obtain ⟨cs, q1, q2, q3⟩ := Cy.hH
  refine ⟨⟨_, q1.cell k _ (Array.getElem?_eq_getElem (by omega))⟩, q1.loose k, ?_⟩
  intro z hz
  have OZ : Only [HS] y z := by rw [hz]; exact (Only.refl _ y).setCell _ (by simp) _
  have KZ : Kept [54] [] w0.heap.size y z := Kept.of_only OZ (Nat.le_trans hB (Nat.le_trans G.size Oy.size)) (by
    intro b hb
    simp only [List.mem_cons, List.not_mem_nil, or_false] at hb
    subst hb
    exact ⟨M.cst.bO.2.2.2, .inl ⟨_, _, q1, by simp⟩⟩)
  have Cz : Cst w0 z N0 O S mR mS mP L HS n F.hb (k + 1) := by rw [hz]; exact Cy.put hn H M.hH
  have az := (Ay k (by omega)).keep KZ (by decide)
  rw [M.hH] at az
  refine ⟨az.cells.2.1, F.put k w.heap.size, Cz, Ry.keep KZ (by decide) (by decide), Py.keep KZ (by decide) (by decide) (by simp) (by simp), fun j hj => (Ay j hj).keep KZ (by decide)⟩
end
end Go.Proofs.Ybulkaccc
