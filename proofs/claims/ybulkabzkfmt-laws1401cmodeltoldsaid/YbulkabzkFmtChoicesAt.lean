/- Choices: what its variable holds in memory. -/
import Derived.Test.YbulkabzkFmtRangeAll
import Derived.Deep.RegionHeld
import Derived.Deep.CutRange
import Derived.Deep.Cut
namespace Go.Proofs.YbulkabzkFmt
open Go.RowKit Go.Extern.Stop Go.Stop Go.Extern

theorem belQ {w w1 w2 : World} (h : Below w.heap.size w w1) (k : ∃ m, w2 = w1.drewN m) : Below w.heap.size w w2 := by
  obtain ⟨m, rfl⟩ := k
  exact below_drewN h m
theorem belAl {w w1 : World} (o : Obj) (h : Below w.heap.size w w1) : Below w.heap.size w (w1.alloc o) := h.alloc h.size o
theorem bcell {W w1 : World} (hb : Below W.heap.size W w1) : (∀ b o, b < W.heap.size → w1.cell? ⟨b, o, none⟩ = W.cell? ⟨b, o, none⟩) ∧ (∀ b o, b < W.heap.size → w1.frozen? ⟨b, o, none⟩ = W.frozen? ⟨b, o, none⟩) :=
  ⟨fun b o h => hb.cell (p := ⟨b, o, none⟩) h, fun b o h => hb.frozen (p := ⟨b, o, none⟩) h⟩

theorem ltAl {w w1 : World} {o : Obj} (hb : Below (w.alloc o).heap.size (w.alloc o) w1) : w.heap.size < w1.heap.size := by
  have := hb.size
  simp at this
  omega
theorem ltAlD {w w1 : World} {o : Obj} (hb : Below (w.alloc o).drew.heap.size (w.alloc o).drew w1) : w.heap.size < w1.heap.size := by
  have := hb.size
  simp at this
  omega
theorem ltB {W w1 : World} (hb : Below W.heap.size W w1) : ∀ b, b < W.heap.size → b < w1.heap.size := fun _ h => Nat.lt_of_lt_of_le h hb.size
theorem belSet8 {W w : World} (h : Below W.heap.size W w) {b : Nat} (hb : W.heap.size ≤ b) (x0 x1 x2 x3 x4 x5 x6 x7 : Value) :
    Below W.heap.size W ((((((((w.setCell ⟨b, 0, none⟩ x0).setCell ⟨b, 1, none⟩ x1).setCell ⟨b, 2, none⟩ x2).setCell ⟨b, 3, none⟩ x3).setCell ⟨b, 4, none⟩ x4).setCell ⟨b, 5, none⟩ x5).setCell ⟨b, 6, none⟩ x6).setCell ⟨b, 7, none⟩ x7) :=
  (((((((h.setCell hb _).setCell hb _).setCell hb _).setCell hb _).setCell hb _).setCell hb _).setCell hb _).setCell hb _

theorem heldOf {w w' : World} {L : Loc} {S : St} (H : HandAt w L S) (ha : S.actor < S.n) (hb : Below w.heap.size w w') :
    w'.cell? ⟨L.h, 3, none⟩ = some (.slice (some ⟨L.bsp, 0, none⟩) S.n S.n) ∧ w'.cell? ⟨L.h, 12, none⟩ = some (.int .i64 S.actor) ∧ w'.cell? ⟨L.bsp, S.actor, none⟩ = some (.int .i64 (S.spent S.actor)) ∧
      w'.cell? ⟨L.h, 0, none⟩ = some (.pointer (some ⟨L.g, 0, none⟩)) ∧ w'.cell? ⟨L.g, 0, none⟩ = some (.string (betOf S.kind)) ∧ Below w.heap.size w w' := by
  have H' := H.later hb
  exact ⟨H'.h3, H'.h12, H'.spi _ ha, H'.h0, H'.g0, hb⟩

def sizedB (S : St) : Bool := (betOf S.kind).toList == [110, 111, 108, 105, 109, 105, 116]
def owedI (S : St) : Int := S.callTo - S.spent S.actor

theorem callTo_bd {S : St} (O : S.Ok) : 0 ≤ S.callTo ∧ S.callTo ≤ 65535 := by
  have hl := O.large
  have h0 := O.stk0 _ O.act
  have h1 := O.stk1 _ O.act
  unfold St.callTo
  split <;> omega

/-- The variable c of Choices: where it lies and what it holds. -/
structure ChAt (W1 wx : World) (cb : Nat) (S : St) (rb : Bool) (lo hi op : Int) : Prop where
  old : W1.heap.size ≤ cb
  lt : cb < wx.heap.size
  bel : Below W1.heap.size W1 wx
  frz : ∀ j, wx.frozen? ⟨cb, j, none⟩ = false
  c0 : wx.cell? ⟨cb, 0, none⟩ = some (.bool (!S.dueB))
  c1 : wx.cell? ⟨cb, 1, none⟩ = some (.int .i64 (owedI S))
  c2 : wx.cell? ⟨cb, 2, none⟩ = some (.bool S.foldB)
  c3 : wx.cell? ⟨cb, 3, none⟩ = some (.bool rb)
  c4 : wx.cell? ⟨cb, 4, none⟩ = some (.int .i64 lo)
  c5 : wx.cell? ⟨cb, 5, none⟩ = some (.int .i64 hi)
  c6 : wx.cell? ⟨cb, 6, none⟩ = some (.int .i64 op)
  c7 : wx.cell? ⟨cb, 7, none⟩ = some (.bool (sizedB S))

theorem owed_wrap {S : St} (O : S.Ok) : IntKind.i64.wrap (S.callTo - S.spent S.actor) = owedI S := by
  have h1 := callTo_bd O
  have h2 := O.sp0 _ O.act
  have h3 := O.sp1 _ O.act
  have h4 := O.stk1 _ O.act
  rw [IntKind.wrap_i64]
  unfold owedI
  omega

theorem ChAt.fresh {W1 w : World} {S : St} (O : S.Ok) (h : Below W1.heap.size W1 w) :
    ChAt W1 (w.alloc (.cells #[.bool (!S.dueB), .int .i64 (IntKind.i64.wrap (S.callTo - S.spent S.actor)), .bool S.foldB, .bool false, .int .i64 0, .int .i64 0, .int .i64 0, .bool ((betOf S.kind).toList == [110, 111, 108, 105, 109, 105, 116])] 63)) w.heap.size S false 0 0 0 := by
  rw [owed_wrap O]
  exact {
    old := h.size
    lt := by simp
    bel := belAl _ h
    frz := fun j => by simp
    c0 := newCell w _ _ _
    c1 := newCell w _ _ _
    c2 := newCell w _ _ _
    c3 := newCell w _ _ _
    c4 := newCell w _ _ _
    c5 := newCell w _ _ _
    c6 := newCell w _ _ _
    c7 := newCell w _ _ _ }

theorem set_same {w : World} {b o : Nat} {x : Value} (h : ∃ v, w.cell? ⟨b, o, none⟩ = some v) : (w.setCell ⟨b, o, none⟩ x).cell? ⟨b, o, none⟩ = some x := by
  obtain ⟨v, hv⟩ := h
  exact World.cell?_setCell_same _ _ _ hv
theorem set_off {w : World} {b o o' : Nat} {x : Value} (h : o ≠ o') : (w.setCell ⟨b, o, none⟩ x).cell? ⟨b, o', none⟩ = w.cell? ⟨b, o', none⟩ :=
  World.cell?_setCell_other _ _ _ _ (by intro e; injection e with _ e2 _; omega)

theorem ChAt.stored {W1 w : World} {S : St} (O : S.Ok) {b : Nat} (h : Below W1.heap.size W1 w) (hb : W1.heap.size ≤ b) (hlt : b < w.heap.size) (hz : ∀ j, w.frozen? ⟨b, j, none⟩ = false)
    (hc : ∀ j, w.cell? ⟨b, j, none⟩ = (#[.bool false, .int .i64 0, .bool false, .bool false, .int .i64 0, .int .i64 0, .int .i64 0, .bool false] : Array Value)[j]?) :
    ChAt W1 ((((((((w.setCell ⟨b, 0, none⟩ (.bool (!S.dueB))).setCell ⟨b, 1, none⟩ (.int .i64 (IntKind.i64.wrap (S.callTo - S.spent S.actor)))).setCell ⟨b, 2, none⟩ (.bool S.foldB)).setCell ⟨b, 3, none⟩ (.bool false)).setCell ⟨b, 4, none⟩ (.int .i64 0)).setCell ⟨b, 5, none⟩ (.int .i64 0)).setCell ⟨b, 6, none⟩ (.int .i64 0)).setCell ⟨b, 7, none⟩ (.bool ((betOf S.kind).toList == [110, 111, 108, 105, 109, 105, 116]))) b S false 0 0 0 := by
  rw [owed_wrap O]
  have e := fun j (hj : j < 8) => (show ∃ v, w.cell? ⟨b, j, none⟩ = some v by rw [hc j]; exact ⟨_, Array.getElem?_eq_getElem (by simpa using hj)⟩)
  exact {
    old := hb
    lt := by simpa using hlt
    bel := belSet8 h hb _ _ _ _ _ _ _ _
    frz := fun j => by simpa using hz j
    c0 := by rw [set_off (by decide), set_off (by decide), set_off (by decide), set_off (by decide), set_off (by decide), set_off (by decide), set_off (by decide), set_same (e 0 (by decide))]
    c1 := by rw [set_off (by decide), set_off (by decide), set_off (by decide), set_off (by decide), set_off (by decide), set_off (by decide), set_same (by rw [set_off (by decide)]; exact e 1 (by decide))]
    c2 := by rw [set_off (by decide), set_off (by decide), set_off (by decide), set_off (by decide), set_off (by decide), set_same (by rw [set_off (by decide), set_off (by decide)]; exact e 2 (by decide))]
    c3 := by rw [set_off (by decide), set_off (by decide), set_off (by decide), set_off (by decide), set_same (by rw [set_off (by decide), set_off (by decide), set_off (by decide)]; exact e 3 (by decide))]
    c4 := by rw [set_off (by decide), set_off (by decide), set_off (by decide), set_same (by rw [set_off (by decide), set_off (by decide), set_off (by decide), set_off (by decide)]; exact e 4 (by decide))]
    c5 := by rw [set_off (by decide), set_off (by decide), set_same (by rw [set_off (by decide), set_off (by decide), set_off (by decide), set_off (by decide), set_off (by decide)]; exact e 5 (by decide))]
    c6 := by rw [set_off (by decide), set_same (by rw [set_off (by decide), set_off (by decide), set_off (by decide), set_off (by decide), set_off (by decide), set_off (by decide)]; exact e 6 (by decide))]
    c7 := by rw [set_same (by rw [set_off (by decide), set_off (by decide), set_off (by decide), set_off (by decide), set_off (by decide), set_off (by decide), set_off (by decide)]; exact e 7 (by decide))]; rfl }

theorem ChAt.later {W1 w w' : World} {cb : Nat} {S : St} {rb : Bool} {lo hi op : Int} (C : ChAt W1 w cb S rb lo hi op) (hb : Below w.heap.size w w') : ChAt W1 w' cb S rb lo hi op where
  old := C.old
  lt := Nat.lt_of_lt_of_le C.lt hb.size
  bel := belT C.bel hb
  frz := fun j => (hb.frozen (p := ⟨cb, j, none⟩) C.lt).trans (C.frz j)
  c0 := cellLater hb C.c0
  c1 := cellLater hb C.c1
  c2 := cellLater hb C.c2
  c3 := cellLater hb C.c3
  c4 := cellLater hb C.c4
  c5 := cellLater hb C.c5
  c6 := cellLater hb C.c6
  c7 := cellLater hb C.c7

theorem ChAt.set6 {W1 w : World} {cb : Nat} {S : St} {rb : Bool} {lo hi op : Int} (C : ChAt W1 w cb S rb lo hi op) (x : Int) : ChAt W1 (w.setCell ⟨cb, 6, none⟩ (.int .i64 x)) cb S rb lo hi x where
  old := C.old
  lt := by simpa using C.lt
  bel := C.bel.setCell C.old _
  frz := fun j => by simpa using C.frz j
  c0 := (set_off (by decide)).trans C.c0
  c1 := (set_off (by decide)).trans C.c1
  c2 := (set_off (by decide)).trans C.c2
  c3 := (set_off (by decide)).trans C.c3
  c4 := (set_off (by decide)).trans C.c4
  c5 := (set_off (by decide)).trans C.c5
  c6 := set_same ⟨_, C.c6⟩
  c7 := (set_off (by decide)).trans C.c7

theorem ChAt.set345 {W1 w : World} {cb : Nat} {S : St} {rb : Bool} {lo hi op : Int} (C : ChAt W1 w cb S rb lo hi op) (x y : Int) :
    ChAt W1 (((w.setCell ⟨cb, 3, none⟩ (.bool true)).setCell ⟨cb, 4, none⟩ (.int .i64 x)).setCell ⟨cb, 5, none⟩ (.int .i64 y)) cb S true x y op where
  old := C.old
  lt := by simpa using C.lt
  bel := ((C.bel.setCell C.old _).setCell C.old _).setCell C.old _
  frz := fun j => by simpa using C.frz j
  c0 := by rw [set_off (by decide), set_off (by decide), set_off (by decide)]; exact C.c0
  c1 := by rw [set_off (by decide), set_off (by decide), set_off (by decide)]; exact C.c1
  c2 := by rw [set_off (by decide), set_off (by decide), set_off (by decide)]; exact C.c2
  c3 := by rw [set_off (by decide), set_off (by decide)]; exact set_same ⟨_, C.c3⟩
  c4 := by rw [set_off (by decide)]; exact set_same ⟨_, (set_off (by decide)).trans C.c4⟩
  c5 := set_same ⟨_, by rw [set_off (by decide), set_off (by decide)]; exact C.c5⟩
  c6 := by rw [set_off (by decide), set_off (by decide), set_off (by decide)]; exact C.c6
  c7 := by rw [set_off (by decide), set_off (by decide), set_off (by decide)]; exact C.c7

end Go.Proofs.YbulkabzkFmt
