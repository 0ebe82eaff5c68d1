/- What the building of a hand does to memory, part by part: no program here. -/
import Derived.Test.YbulkabzkFmtPlain
import Derived.WalkKit
import Derived.Deep.RegionHeld
namespace Go.Proofs.YbulkabzkFmt
open Go.RowKit

def updI (f : Nat → Int) (k : Nat) (v : Int) : Nat → Int := fun i => if i = k then v else f i
def updB (f : Nat → Bool) (k : Nat) (v : Bool) : Nat → Bool := fun i => if i = k then v else f i
theorem updI_same (f : Nat → Int) (k : Nat) (v : Int) : updI f k v k = v := by simp [updI]
theorem updI_bd {f : Nat → Int} {k n : Nat} {v a b : Int} (h : ∀ i, i < n → a ≤ f i ∧ f i ≤ b) (hv : a ≤ v ∧ v ≤ b) : ∀ i, i < n → a ≤ updI f k v i ∧ updI f k v i ≤ b := by
  intro i hi
  unfold updI
  split
  · exact hv
  · exact h i hi

/-- The four rows while the first loop fills them. -/
structure Rows4 (w0 : World) (bx : Array Value) (n : Nat) (stk bl sp : Nat → Int) (fo : Nat → Bool) (w : World) : Prop where
  bel : Below w0.heap.size w0 w
  sz : w.heap.size = w0.heap.size + 5
  box : ∀ j, w.cell? ⟨w0.heap.size, j, none⟩ = bx[j]?
  c1 : ∀ i, i < n → w.cell? ⟨w0.heap.size + 1, i, none⟩ = some (.int .i64 (stk i))
  c2 : ∀ i, i < n → w.cell? ⟨w0.heap.size + 2, i, none⟩ = some (.int .i64 (bl i))
  c3 : ∀ i, i < n → w.cell? ⟨w0.heap.size + 3, i, none⟩ = some (.int .i64 (sp i))
  c4 : ∀ i, i < n → w.cell? ⟨w0.heap.size + 4, i, none⟩ = some (.bool (fo i))
  z1 : ∀ i, w.frozen? ⟨w0.heap.size + 1, i, none⟩ = false
  z2 : ∀ i, w.frozen? ⟨w0.heap.size + 2, i, none⟩ = false
  z3 : ∀ i, w.frozen? ⟨w0.heap.size + 3, i, none⟩ = false
  z4 : ∀ i, w.frozen? ⟨w0.heap.size + 4, i, none⟩ = false

theorem cell_far {w : World} {b o b' o' : Nat} {v : Value} (h : b ≠ b') : (w.setCell ⟨b, o, none⟩ v).cell? ⟨b', o', none⟩ = w.cell? ⟨b', o', none⟩ :=
  World.cell?_setCell_far w ⟨b, o, none⟩ ⟨b', o', none⟩ v h

theorem cell_upd {w : World} {b k n : Nat} {f g : Nat → Value} (hc : ∀ i, i < n → w.cell? ⟨b, i, none⟩ = some (f i)) (hk : k < n) (hg : ∀ i, i ≠ k → g i = f i) :
    ∀ i, i < n → (w.setCell ⟨b, k, none⟩ (g k)).cell? ⟨b, i, none⟩ = some (g i) := by
  intro i hi
  by_cases h : i = k
  · subst h
    exact World.cell?_setCell_same _ _ _ (hc i hi)
  · rw [World.cell?_setCell_other _ _ _ _ (by intro e; injection e with _ e2 _; omega), hc i hi, hg i h]

theorem frozen_set (w : World) (a p : Addr) (v : Value) : (w.setCell a v).frozen? p = w.frozen? p := by simp

theorem Rows4.set1 {w0 : World} {bx : Array Value} {n : Nat} {stk bl sp : Nat → Int} {fo : Nat → Bool} {w : World} (R : Rows4 w0 bx n stk bl sp fo w) {k : Nat} (hk : k < n) (v : Int) :
    Rows4 w0 bx n (updI stk k v) bl sp fo (w.setCell ⟨w0.heap.size + 1, k, none⟩ (.int .i64 v)) where
  bel := R.bel.setCell (by show w0.heap.size ≤ w0.heap.size + 1; omega) _
  sz := by rw [← R.sz]; simp
  box := fun j => (cell_far (by omega)).trans (R.box j)
  c1 := by
    have := cell_upd (g := fun i => .int .i64 (updI stk k v i)) R.c1 hk (fun i hi => by simp [updI, hi])
    simpa [updI_same] using this
  c2 := fun i hi => (cell_far (by omega)).trans (R.c2 i hi)
  c3 := fun i hi => (cell_far (by omega)).trans (R.c3 i hi)
  c4 := fun i hi => (cell_far (by omega)).trans (R.c4 i hi)
  z1 := fun i => (frozen_set ..).trans (R.z1 i)
  z2 := fun i => (frozen_set ..).trans (R.z2 i)
  z3 := fun i => (frozen_set ..).trans (R.z3 i)
  z4 := fun i => (frozen_set ..).trans (R.z4 i)

theorem Rows4.set2 {w0 : World} {bx : Array Value} {n : Nat} {stk bl sp : Nat → Int} {fo : Nat → Bool} {w : World} (R : Rows4 w0 bx n stk bl sp fo w) {k : Nat} (hk : k < n) (v : Int) :
    Rows4 w0 bx n stk (updI bl k v) sp fo (w.setCell ⟨w0.heap.size + 2, k, none⟩ (.int .i64 v)) where
  bel := R.bel.setCell (by show w0.heap.size ≤ w0.heap.size + 2; omega) _
  sz := by rw [← R.sz]; simp
  box := fun j => (cell_far (by omega)).trans (R.box j)
  c1 := fun i hi => (cell_far (by omega)).trans (R.c1 i hi)
  c2 := by
    have := cell_upd (g := fun i => .int .i64 (updI bl k v i)) R.c2 hk (fun i hi => by simp [updI, hi])
    simpa [updI_same] using this
  c3 := fun i hi => (cell_far (by omega)).trans (R.c3 i hi)
  c4 := fun i hi => (cell_far (by omega)).trans (R.c4 i hi)
  z1 := fun i => (frozen_set ..).trans (R.z1 i)
  z2 := fun i => (frozen_set ..).trans (R.z2 i)
  z3 := fun i => (frozen_set ..).trans (R.z3 i)
  z4 := fun i => (frozen_set ..).trans (R.z4 i)

theorem Rows4.set3 {w0 : World} {bx : Array Value} {n : Nat} {stk bl sp : Nat → Int} {fo : Nat → Bool} {w : World} (R : Rows4 w0 bx n stk bl sp fo w) {k : Nat} (hk : k < n) (v : Int) :
    Rows4 w0 bx n stk bl (updI sp k v) fo (w.setCell ⟨w0.heap.size + 3, k, none⟩ (.int .i64 v)) where
  bel := R.bel.setCell (by show w0.heap.size ≤ w0.heap.size + 3; omega) _
  sz := by rw [← R.sz]; simp
  box := fun j => (cell_far (by omega)).trans (R.box j)
  c1 := fun i hi => (cell_far (by omega)).trans (R.c1 i hi)
  c2 := fun i hi => (cell_far (by omega)).trans (R.c2 i hi)
  c3 := by
    have := cell_upd (g := fun i => .int .i64 (updI sp k v i)) R.c3 hk (fun i hi => by simp [updI, hi])
    simpa [updI_same] using this
  c4 := fun i hi => (cell_far (by omega)).trans (R.c4 i hi)
  z1 := fun i => (frozen_set ..).trans (R.z1 i)
  z2 := fun i => (frozen_set ..).trans (R.z2 i)
  z3 := fun i => (frozen_set ..).trans (R.z3 i)
  z4 := fun i => (frozen_set ..).trans (R.z4 i)

theorem Rows4.set4 {w0 : World} {bx : Array Value} {n : Nat} {stk bl sp : Nat → Int} {fo : Nat → Bool} {w : World} (R : Rows4 w0 bx n stk bl sp fo w) {k : Nat} (hk : k < n) (v : Bool) :
    Rows4 w0 bx n stk bl sp (updB fo k v) (w.setCell ⟨w0.heap.size + 4, k, none⟩ (.bool v)) where
  bel := R.bel.setCell (by show w0.heap.size ≤ w0.heap.size + 4; omega) _
  sz := by rw [← R.sz]; simp
  box := fun j => (cell_far (by omega)).trans (R.box j)
  c1 := fun i hi => (cell_far (by omega)).trans (R.c1 i hi)
  c2 := fun i hi => (cell_far (by omega)).trans (R.c2 i hi)
  c3 := fun i hi => (cell_far (by omega)).trans (R.c3 i hi)
  c4 := by
    have := cell_upd (g := fun i => .bool (updB fo k v i)) R.c4 hk (fun i hi => by simp [updB, hi])
    simpa [updB] using this
  z1 := fun i => (frozen_set ..).trans (R.z1 i)
  z2 := fun i => (frozen_set ..).trans (R.z2 i)
  z3 := fun i => (frozen_set ..).trans (R.z3 i)
  z4 := fun i => (frozen_set ..).trans (R.z4 i)

theorem made_at (z : Value) (n i : Nat) (h : i < n) : (madeCells #[z] n)[i]? = some z := by
  have := toList_madeCells_one z n
  rw [← Array.getElem?_toList, this]
  simp [h]

theorem alloc_at {w : World} {cs : Array Value} {t : TypeId} {b : Nat} (hb : b = w.heap.size) (j : Nat) : (w.alloc (.cells cs t)).cell? ⟨b, j, none⟩ = cs[j]? := World.cell?_alloc_at cs t b j hb
theorem alloc_past {w : World} {o : Obj} {b : Nat} (hb : b < w.heap.size) (j : Nat) : (w.alloc o).cell? ⟨b, j, none⟩ = w.cell? ⟨b, j, none⟩ := World.cell?_alloc_past o b j hb
theorem frozen_at {w : World} {cs : Array Value} {t : TypeId} {b : Nat} (hb : b = w.heap.size) (j : Nat) : (w.alloc (.cells cs t)).frozen? ⟨b, j, none⟩ = false := by subst hb; simp
theorem frozen_past {w : World} {o : Obj} {b : Nat} (hb : b < w.heap.size) (j : Nat) : (w.alloc o).frozen? ⟨b, j, none⟩ = w.frozen? ⟨b, j, none⟩ :=
  ((Below.refl w.heap.size w).alloc (Nat.le_refl _) o).frozen (p := ⟨b, j, none⟩) hb

theorem Rows4.start (w : World) (bx : Array Value) (t : TypeId) (n : Nat) :
    Rows4 w bx n (fun _ => 0) (fun _ => 0) (fun _ => 0) (fun _ => false) (((((w.alloc (.cells bx t)).alloc (.cells (madeCells #[.int .i64 0] n) 3)).alloc (.cells (madeCells #[.int .i64 0] n) 3)).alloc (.cells (madeCells #[.int .i64 0] n) 3)).alloc (.cells (madeCells #[.bool false] n) 4)) where
  bel := (((((Below.refl _ w).alloc (Nat.le_refl _) _).alloc (by simp) _).alloc (by simp <;> omega) _).alloc (by simp <;> omega) _).alloc (by simp <;> omega) _
  sz := by simp
  box := fun j => by rw [alloc_past (by simp <;> omega), alloc_past (by simp <;> omega), alloc_past (by simp <;> omega), alloc_past (by simp <;> omega), alloc_at rfl]
  c1 := fun i hi => by rw [alloc_past (by simp <;> omega), alloc_past (by simp <;> omega), alloc_past (by simp <;> omega), alloc_at (by simp), made_at _ _ _ hi]
  c2 := fun i hi => by rw [alloc_past (by simp <;> omega), alloc_past (by simp <;> omega), alloc_at (by simp), made_at _ _ _ hi]
  c3 := fun i hi => by rw [alloc_past (by simp <;> omega), alloc_at (by simp), made_at _ _ _ hi]
  c4 := fun i hi => by rw [alloc_at (by simp), made_at _ _ _ hi]
  z1 := fun i => by rw [frozen_past (by simp <;> omega), frozen_past (by simp <;> omega), frozen_past (by simp <;> omega), frozen_at (by simp)]
  z2 := fun i => by rw [frozen_past (by simp <;> omega), frozen_past (by simp <;> omega), frozen_at (by simp)]
  z3 := fun i => by rw [frozen_past (by simp <;> omega), frozen_at (by simp)]
  z4 := fun i => by rw [frozen_at (by simp)]

/-- The rows with every spent within its stack; and the same but at k. -/
def Full (w0 : World) (bx : Array Value) (n : Nat) (w : World) : Prop :=
  ∃ (stk bl sp : Nat → Int) (fo : Nat → Bool), Rows4 w0 bx n stk bl sp fo w ∧ (∀ i, i < n → 0 ≤ stk i ∧ stk i ≤ 65535) ∧ (∀ i, i < n → 0 ≤ bl i ∧ bl i ≤ 255) ∧ (∀ i, i < n → 0 ≤ sp i ∧ sp i ≤ stk i)
def Mid (w0 : World) (bx : Array Value) (n k : Nat) (w : World) : Prop :=
  ∃ (stk bl sp : Nat → Int) (fo : Nat → Bool), Rows4 w0 bx n stk bl sp fo w ∧ (∀ i, i < n → 0 ≤ stk i ∧ stk i ≤ 65535) ∧ (∀ i, i < n → 0 ≤ bl i ∧ bl i ≤ 255) ∧ (∀ i, i < n → i ≠ k → 0 ≤ sp i ∧ sp i ≤ stk i)

theorem Full.start (w : World) (bx : Array Value) (t : TypeId) (n : Nat) :
    Full w bx n (((((w.alloc (.cells bx t)).alloc (.cells (madeCells #[.int .i64 0] n) 3)).alloc (.cells (madeCells #[.int .i64 0] n) 3)).alloc (.cells (madeCells #[.int .i64 0] n) 3)).alloc (.cells (madeCells #[.bool false] n) 4)) :=
  ⟨_, _, _, _, Rows4.start w bx t n, fun _ _ => by decide, fun _ _ => by decide, fun _ _ => by decide⟩

theorem Mid.set1 {w0 : World} {bx : Array Value} {n k : Nat} {stk bl sp : Nat → Int} {fo : Nat → Bool} {w : World} (R : Rows4 w0 bx n stk bl sp fo w) (hk : k < n) (r1 : ∀ i, i < n → 0 ≤ stk i ∧ stk i ≤ 65535)
    (r2 : ∀ i, i < n → 0 ≤ bl i ∧ bl i ≤ 255) (r3 : ∀ i, i < n → i ≠ k → 0 ≤ sp i ∧ sp i ≤ stk i) {v : Int} (hv : 0 ≤ v ∧ v ≤ 65535) :
    Mid w0 bx n k (w.setCell ⟨w0.heap.size + 1, k, none⟩ (.int .i64 v)) :=
  ⟨_, _, _, _, R.set1 hk v, updI_bd r1 hv, r2, fun i hi hne => by simp only [updI, if_neg hne]; exact r3 i hi hne⟩
theorem Mid.set2 {w0 : World} {bx : Array Value} {n k : Nat} {stk bl sp : Nat → Int} {fo : Nat → Bool} {w : World} (R : Rows4 w0 bx n stk bl sp fo w) (hk : k < n) (r1 : ∀ i, i < n → 0 ≤ stk i ∧ stk i ≤ 65535)
    (r2 : ∀ i, i < n → 0 ≤ bl i ∧ bl i ≤ 255) (r3 : ∀ i, i < n → i ≠ k → 0 ≤ sp i ∧ sp i ≤ stk i) {v : Int} (hv : 0 ≤ v ∧ v ≤ 255) :
    Mid w0 bx n k (w.setCell ⟨w0.heap.size + 2, k, none⟩ (.int .i64 v)) :=
  ⟨_, _, _, _, R.set2 hk v, r1, updI_bd r2 hv, r3⟩
theorem Full.set3 {w0 : World} {bx : Array Value} {n k : Nat} {stk bl sp : Nat → Int} {fo : Nat → Bool} {w : World} (R : Rows4 w0 bx n stk bl sp fo w) (hk : k < n) (r1 : ∀ i, i < n → 0 ≤ stk i ∧ stk i ≤ 65535)
    (r2 : ∀ i, i < n → 0 ≤ bl i ∧ bl i ≤ 255) (r3 : ∀ i, i < n → i ≠ k → 0 ≤ sp i ∧ sp i ≤ stk i) {v : Int} (hv : 0 ≤ v ∧ v ≤ stk k) :
    Full w0 bx n (w.setCell ⟨w0.heap.size + 3, k, none⟩ (.int .i64 v)) :=
  ⟨_, _, _, _, R.set3 hk v, r1, r2, fun i hi => by
    by_cases h : i = k
    · subst h; simp only [updI, if_true]; exact hv
    · simp only [updI, if_neg h]; exact r3 i hi h⟩
theorem Full.set4 {w0 : World} {bx : Array Value} {n k : Nat} {stk bl sp : Nat → Int} {fo : Nat → Bool} {w : World} (R : Rows4 w0 bx n stk bl sp fo w) (hk : k < n) (r1 : ∀ i, i < n → 0 ≤ stk i ∧ stk i ≤ 65535)
    (r2 : ∀ i, i < n → 0 ≤ bl i ∧ bl i ≤ 255) (r3 : ∀ i, i < n → 0 ≤ sp i ∧ sp i ≤ stk i) (v : Bool) :
    Full w0 bx n (w.setCell ⟨w0.heap.size + 4, k, none⟩ (.bool v)) :=
  ⟨_, _, _, _, R.set4 hk v, r1, r2, r3⟩

end Go.Proofs.YbulkabzkFmt
