/- What the building of a hand does to memory behind its first loop: no program here. -/
import Derived.Test.YbulkabzkFmtParts
namespace Go.Proofs.YbulkabzkFmt
open Go.RowKit

/-- The game's cells, as it is laid: of OpeningBets and MaxRaises the values op, mr. -/
def gameCells (b n kd : Nat) (op mr : Value) (ff : Bool) : Array Value :=
  #[.string (betOf kd), .int .i64 n, .int .i64 1, .slice (some ⟨b + 2, 0, none⟩) n n, .int .i64 0, op, .slice (some ⟨b + 5, 0, none⟩) 1 1, .slice (some ⟨b + 6, 0, none⟩) 1 1, mr, .bool ff, .int .i64 0, .int .i64 0, .int .i64 0, .slice none 0 0, .slice (some ⟨b + 1, 0, none⟩) n n]

structure Tail (w0 : World) (bx : Array Value) (n : Nat) (stk bl sp : Nat → Int) (fo : Nat → Bool) (kd : Nat) (rsize : Int) (ff : Bool) (op mr : Value) (w : World) : Prop where
  bel : Below w0.heap.size w0 w
  sz : w0.heap.size + 8 ≤ w.heap.size
  box : ∀ j, w.cell? ⟨w0.heap.size, j, none⟩ = bx[j]?
  c1 : ∀ i, i < n → w.cell? ⟨w0.heap.size + 1, i, none⟩ = some (.int .i64 (stk i))
  c2 : ∀ i, i < n → w.cell? ⟨w0.heap.size + 2, i, none⟩ = some (.int .i64 (bl i))
  c3 : ∀ i, i < n → w.cell? ⟨w0.heap.size + 3, i, none⟩ = some (.int .i64 (sp i))
  c4 : ∀ i, i < n → w.cell? ⟨w0.heap.size + 4, i, none⟩ = some (.bool (fo i))
  rs : w.cell? ⟨w0.heap.size + 5, 0, none⟩ = some (.int .i64 rsize)
  gc : ∀ j, w.cell? ⟨w0.heap.size + 7, j, none⟩ = (gameCells w0.heap.size n kd op mr ff)[j]?
  gz : ∀ j, w.frozen? ⟨w0.heap.size + 7, j, none⟩ = false

theorem Tail.start {w0 : World} {bx : Array Value} {n : Nat} {stk bl sp : Nat → Int} {fo : Nat → Bool} {w : World} (R : Rows4 w0 bx n stk bl sp fo w) (kd : Nat) (rsize : Int) (ff : Bool) (x : Value) :
    Tail w0 bx n stk bl sp fo kd rsize ff (.slice none 0 0) (.slice none 0 0) (((w.alloc (.cells #[.int .i64 rsize] 3)).alloc (.cells #[x] 3)).alloc (.cells (gameCells w0.heap.size n kd (.slice none 0 0) (.slice none 0 0) ff) 61)) := by
  have hs := R.sz
  have b1 := ((R.bel.alloc R.bel.size (.cells #[.int .i64 rsize] 3)).alloc (by simp; omega) (.cells #[x] 3)).alloc (by simp; omega) (.cells (gameCells w0.heap.size n kd (.slice none 0 0) (.slice none 0 0) ff) 61)
  exact {
    bel := b1
    sz := by simp; omega
    box := fun j => by rw [alloc_past (by simp <;> omega), alloc_past (by simp <;> omega), alloc_past (by omega)]; exact R.box j
    c1 := fun i hi => by rw [alloc_past (by simp <;> omega), alloc_past (by simp <;> omega), alloc_past (by omega)]; exact R.c1 i hi
    c2 := fun i hi => by rw [alloc_past (by simp <;> omega), alloc_past (by simp <;> omega), alloc_past (by omega)]; exact R.c2 i hi
    c3 := fun i hi => by rw [alloc_past (by simp <;> omega), alloc_past (by simp <;> omega), alloc_past (by omega)]; exact R.c3 i hi
    c4 := fun i hi => by rw [alloc_past (by simp <;> omega), alloc_past (by simp <;> omega), alloc_past (by omega)]; exact R.c4 i hi
    rs := by rw [alloc_past (by simp <;> omega), alloc_past (by simp <;> omega), alloc_at (by omega)]; rfl
    gc := fun j => by rw [alloc_at (by simp <;> omega)]
    gz := fun j => by rw [frozen_at (by simp <;> omega)] }

theorem Tail.later {w0 : World} {bx : Array Value} {n : Nat} {stk bl sp : Nat → Int} {fo : Nat → Bool} {kd : Nat} {rsize : Int} {ff : Bool} {op mr : Value} {w w' : World} (T : Tail w0 bx n stk bl sp fo kd rsize ff op mr w) (hb : Below w.heap.size w w') :
    Tail w0 bx n stk bl sp fo kd rsize ff op mr w' := by
  have hs := T.sz
  exact {
    bel := T.bel.trans (hb.mono T.bel.size)
    sz := Nat.le_trans T.sz hb.size
    box := fun j => (hb.cell (p := ⟨w0.heap.size, j, none⟩) (by show w0.heap.size < _; omega)).trans (T.box j)
    c1 := fun i hi => cellLater hb (T.c1 i hi)
    c2 := fun i hi => cellLater hb (T.c2 i hi)
    c3 := fun i hi => cellLater hb (T.c3 i hi)
    c4 := fun i hi => cellLater hb (T.c4 i hi)
    rs := cellLater hb T.rs
    gc := fun j => (hb.cell (p := ⟨w0.heap.size + 7, j, none⟩) (by show w0.heap.size + 7 < _; omega)).trans (T.gc j)
    gz := fun j => (hb.frozen (p := ⟨w0.heap.size + 7, j, none⟩) (by show w0.heap.size + 7 < _; omega)).trans (T.gz j) }

theorem game_upd5 {w : World} {b g n kd : Nat} {op mr op' : Value} {ff : Bool} (hc : ∀ j, w.cell? ⟨g, j, none⟩ = (gameCells b n kd op mr ff)[j]?) : ∀ j, (w.setCell ⟨g, 5, none⟩ op').cell? ⟨g, j, none⟩ = (gameCells b n kd op' mr ff)[j]? := by
  intro j
  by_cases h : j = 5
  · subst h
    exact World.cell?_setCell_same _ _ _ (hc 5)
  · rw [World.cell?_setCell_other _ _ _ _ (by intro e; injection e with _ e2 _; omega), hc j]
    match j, h with
    | 0, _ => rfl
    | 1, _ => rfl
    | 2, _ => rfl
    | 3, _ => rfl
    | 4, _ => rfl
    | 6, _ => rfl
    | 7, _ => rfl
    | 8, _ => rfl
    | 9, _ => rfl
    | 10, _ => rfl
    | 11, _ => rfl
    | 12, _ => rfl
    | 13, _ => rfl
    | 14, _ => rfl
    | j + 15, _ => simp [gameCells]

theorem game_upd8 {w : World} {b g n kd : Nat} {op mr mr' : Value} {ff : Bool} (hc : ∀ j, w.cell? ⟨g, j, none⟩ = (gameCells b n kd op mr ff)[j]?) : ∀ j, (w.setCell ⟨g, 8, none⟩ mr').cell? ⟨g, j, none⟩ = (gameCells b n kd op mr' ff)[j]? := by
  intro j
  by_cases h : j = 8
  · subst h
    exact World.cell?_setCell_same _ _ _ (hc 8)
  · rw [World.cell?_setCell_other _ _ _ _ (by intro e; injection e with _ e2 _; omega), hc j]
    match j, h with
    | 0, _ => rfl
    | 1, _ => rfl
    | 2, _ => rfl
    | 3, _ => rfl
    | 4, _ => rfl
    | 5, _ => rfl
    | 6, _ => rfl
    | 7, _ => rfl
    | 9, _ => rfl
    | 10, _ => rfl
    | 11, _ => rfl
    | 12, _ => rfl
    | 13, _ => rfl
    | 14, _ => rfl
    | j + 15, _ => simp [gameCells]

theorem Tail.put {w0 : World} {bx : Array Value} {n : Nat} {stk bl sp : Nat → Int} {fo : Nat → Bool} {kd : Nat} {rsize : Int} {ff : Bool} {op mr op' mr' : Value} {w : World} (T : Tail w0 bx n stk bl sp fo kd rsize ff op mr w) {o : Nat} {v : Value}
    (hg : ∀ j, (w.setCell ⟨w0.heap.size + 7, o, none⟩ v).cell? ⟨w0.heap.size + 7, j, none⟩ = (gameCells w0.heap.size n kd op' mr' ff)[j]?) :
    Tail w0 bx n stk bl sp fo kd rsize ff op' mr' (w.setCell ⟨w0.heap.size + 7, o, none⟩ v) where
  bel := T.bel.setCell (by show w0.heap.size ≤ w0.heap.size + 7; omega) _
  sz := by have := T.sz; simpa using this
  box := fun j => (cell_far (by omega)).trans (T.box j)
  c1 := fun i hi => (cell_far (by omega)).trans (T.c1 i hi)
  c2 := fun i hi => (cell_far (by omega)).trans (T.c2 i hi)
  c3 := fun i hi => (cell_far (by omega)).trans (T.c3 i hi)
  c4 := fun i hi => (cell_far (by omega)).trans (T.c4 i hi)
  rs := (cell_far (by omega)).trans T.rs
  gc := hg
  gz := fun j => (frozen_set ..).trans (T.gz j)

theorem set_alloc {w : World} {o : Obj} {b j : Nat} {v : Value} (h : b < w.heap.size) : (w.setCell ⟨b, j, none⟩ v).alloc o = (w.alloc o).setCell ⟨b, j, none⟩ v := (World.setCell_alloc_past o b j v h).symm

theorem bel1 (w : World) (a : Obj) : Below w.heap.size w (w.alloc a) := (Below.refl _ w).alloc (Nat.le_refl _) a
theorem bel2 (w : World) (a b : Obj) : Below w.heap.size w ((w.alloc a).alloc b) := (bel1 w a).alloc (by simp) b
theorem bel3 (w : World) (a b c : Obj) : Below w.heap.size w (((w.alloc a).alloc b).alloc c) := (bel2 w a b).alloc (by simp; omega) c
theorem wrap_id {x : Int} (h0 : -65536 ≤ x) (h1 : x ≤ 65536) : IntKind.i64.wrap x = x := by rw [IntKind.wrap_i64]; omega

theorem heldBox {w0 : World} {bx : Array Value} {n : Nat} {stk bl sp : Nat → Int} {fo : Nat → Bool} {kd : Nat} {rsize : Int} {ff : Bool} {op mr : Value} {w w' : World} (T : Tail w0 bx n stk bl sp fo kd rsize ff op mr w) (hb : Below w.heap.size w w') :
    (∀ j, w'.cell? ⟨w0.heap.size, j, none⟩ = bx[j]?) ∧ Below w.heap.size w w' := ⟨(T.later hb).box, hb⟩

/-- Behind the opening bets' part: with them or without. -/
def OpnAt (w0 : World) (bx : Array Value) (n : Nat) (stk bl sp : Nat → Int) (fo : Nat → Bool) (kd : Nat) (rsize : Int) (ff : Bool) (s : Value) (w : World) : Prop :=
  ∃ (opn : Bool) (nops : Nat) (ops : Nat → Int) (bop bpp : Nat) (op : Value), s = .int .i64 nops ∧ nops ≤ 4 ∧ Tail w0 bx n stk bl sp fo kd rsize ff op (.slice none 0 0) w ∧ (opn = false → op = .slice none 0 0) ∧
    (opn = true → op = .slice (some ⟨bop, 0, none⟩) 1 1 ∧ w.cell? ⟨bop, 0, none⟩ = some (.slice (some ⟨bpp, 0, none⟩) nops 4) ∧ ∀ i, i < nops → w.cell? ⟨bpp, i, none⟩ = some (.int .i64 (ops i))) ∧
    (∀ i, i < nops → 0 ≤ ops i ∧ ops i ≤ 255) ∧ (opn = true → bop ≠ w0.heap.size + 7 ∧ bpp ≠ w0.heap.size + 7)

/-- The opening bets that are gathered. -/
def opsTo (f : Nat → Int) (k : Nat) : List Value := (List.range k).map fun i => .int .i64 (f i)
theorem opsTo_succ (f : Nat → Int) (k : Nat) : opsTo f (k + 1) = opsTo f k ++ [.int .i64 (f k)] := by simp [opsTo, List.range_succ]

theorem OpnAt.no {w0 : World} {bx : Array Value} {n : Nat} {stk bl sp : Nat → Int} {fo : Nat → Bool} {kd : Nat} {rsize : Int} {ff : Bool} {w : World} (T : Tail w0 bx n stk bl sp fo kd rsize ff (.slice none 0 0) (.slice none 0 0) w) :
    OpnAt w0 bx n stk bl sp fo kd rsize ff (.int .i64 0) w :=
  ⟨false, 0, fun _ => 0, 0, 0, _, rfl, by decide, T, fun _ => rfl, fun h => (by cases h), fun i hi => (by omega), fun h => (by cases h)⟩

theorem OpnAt.yes {w0 : World} {bx : Array Value} {n : Nat} {stk bl sp : Nat → Int} {fo : Nat → Bool} {kd : Nat} {rsize : Int} {ff : Bool} {w : World} {f : Nat → Int} {k g : Nat} {x : Value} (T : Tail w0 bx n stk bl sp fo kd rsize ff (.slice none 0 0) x w)
    (hx : x = .slice none 0 0) (hk : k ≤ 4) (hf : ∀ i, i < k → 0 ≤ f i ∧ f i ≤ 255) (hg : w0.heap.size + 8 ≤ g) (hown : w.ownsRow (w0.heap.size + 8) 3 1 (.slice (some ⟨g, 0, none⟩) k 4) k (opsTo f k)) :
    OpnAt w0 bx n stk bl sp fo kd rsize ff (.int .i64 k) ((w.setCell ⟨w0.heap.size + 7, 5, none⟩ (.slice (some ⟨w.heap.size, 0, none⟩) 1 1)).alloc (.cells #[.slice (some ⟨g, 0, none⟩) k 4] 53)) := by
  subst hx
  rw [set_alloc (b := w0.heap.size + 7) (by have := T.sz; omega)]
  have hlt : g < w.heap.size := (hown.lt g rfl).2
  have T1 := T.later ((Below.refl _ w).alloc (Nat.le_refl _) (.cells #[.slice (some ⟨g, 0, none⟩) k 4] 53))
  have T2 := T1.put (game_upd5 T1.gc (op' := .slice (some ⟨w.heap.size, 0, none⟩) 1 1))
  have hs := T.sz
  refine ⟨true, k, f, w.heap.size, g, _, rfl, hk, T2, fun h => (by cases h), fun _ => ⟨rfl, ?_, fun i hi => ?_⟩, hf, fun _ => ⟨by omega, by omega⟩⟩
  · rw [cell_far (by omega), alloc_at rfl]; rfl
  · rw [cell_far (by omega), alloc_past hlt]
    have := hown.cellAt i (by omega)
    rw [this]
    simp [opsTo, hi]

end Go.Proofs.YbulkabzkFmt
