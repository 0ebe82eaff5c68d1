/- The decoder's methods by their contracts: no read runs past the end there, so err stays nil. -/
import Derived.Test.YbulkacdsFmtEncode3
set_option linter.unusedVariables false
set_option linter.unusedSimpArgs false
namespace Go.Proofs.YbulkacdsFmt
open Go.RowKit Go.Extern.Stop Go.Stop Go.Extern

/-- Nothing has turned but the listed blocks, and what is new. -/
structure Only (L : List Nat) (w w' : World) : Prop where
  os : w'.os = w.os
  tape : w'.tape = w.tape
  output : w'.output = w.output
  size : w.heap.size ≤ w'.heap.size
  block : ∀ k, k < w.heap.size → k ∉ L → w'.heap[k]? = w.heap[k]?

theorem Only.refl (L : List Nat) (w : World) : Only L w w := ⟨rfl, rfl, rfl, Nat.le_refl _, fun _ _ _ => rfl⟩
theorem Only.trans {L : List Nat} {a b c : World} (h : Only L a b) (k : Only L b c) : Only L a c :=
  ⟨k.os.trans h.os, k.tape.trans h.tape, k.output.trans h.output, Nat.le_trans h.size k.size, fun i hi hn => (k.block i (Nat.lt_of_lt_of_le hi h.size) hn).trans (h.block i hi hn)⟩
theorem Only.mono {L L' : List Nat} {a b : World} (h : Only L a b) (hl : ∀ x, x ∈ L → x ∈ L') : Only L' a b := ⟨h.os, h.tape, h.output, h.size, fun k hk hn => h.block k hk (fun hm => hn (hl k hm))⟩
theorem Only.setCell {L : List Nat} {a w : World} (h : Only L a w) (p : Addr) (hp : p.block ∈ L) (u : Value) : Only L a (w.setCell p u) :=
  h.trans ⟨rfl, rfl, rfl, by simp, fun k hk hn => Below.heap_setCell _ _ _ _ (fun e => hn (by rw [e]; exact hp))⟩
theorem Only.of {L : List Nat} {w w' : World} (h : Below w.heap.size w w') : Only L w w' := ⟨h.os, h.tape, h.output, h.size, fun k hk _ => h.block k hk⟩
/-- A new block may turn: whoever began before it does not see it. -/
theorem Only.fresh {L : List Nat} {x : Nat} {a b : World} (h : Only (x :: L) a b) (hx : a.heap.size ≤ x) : Only L a b :=
  ⟨h.os, h.tape, h.output, h.size, fun k hk hn => h.block k hk (by simp only [List.mem_cons, not_or]; exact ⟨by omega, hn⟩)⟩
theorem Only.below {L : List Nat} {B : Nat} {w w' : World} (h : Only L w w') (hL : ∀ x ∈ L, B ≤ x) (hB : B ≤ w.heap.size) : Below B w w' :=
  ⟨h.os, h.tape, h.output, h.size, fun k hk => h.block k (by omega) (fun hm => by have := hL k hm; omega)⟩
theorem Only.at {L : List Nat} {w w' : World} (h : Only L w w') {k : Nat} {o : Obj} (hk : k ∉ L) (hc : w.heap[k]? = some o) : w'.heap[k]? = some o := (h.block k (lt_of_block hc) hk).trans hc

/-- The cells of block g from offset o on. -/
def Rd (w : World) (g o : Nat) (ys : List Value) : Prop := ∀ j, j < ys.length → w.cell? ⟨g, o + j, none⟩ = ys[j]?

/-- A decoder without an error, the bytes ys ahead of it. -/
structure Dc (w : World) (db g : Nat) (ys : List Value) : Prop where
  ex : ∃ o cap, w.heap[db]? = some (.cells #[.slice (some ⟨g, o, none⟩) ys.length cap, .nilIface] 41 (0, 0)) ∧ ys.length ≤ cap ∧ cap ≤ maxLen ∧ Rd w g o ys
  row : ∃ cur, w.heap[g]? = some (.cells cur 5 (0, 0))

theorem Rd.same {w w' : World} {g o : Nat} {ys : List Value} (h : Rd w g o ys) (hb : w'.heap[g]? = w.heap[g]?) : Rd w' g o ys := fun j hj => (World.cell?_of_block (a := ⟨g, o + j, none⟩) hb).trans (h j hj)
theorem Rd.take {w : World} {g o : Nat} {ys : List Value} (h : Rd w g o ys) (n : Nat) : Rd w g o (ys.take n) := fun j hj => by
  rw [List.length_take] at hj
  rw [h j (by omega), List.getElem?_take, if_pos (by omega)]
theorem Rd.drop {w : World} {g o : Nat} {ys : List Value} (h : Rd w g o ys) (n : Nat) : Rd w g (o + n) (ys.drop n) := fun j hj => by
  rw [List.length_drop] at hj
  have := h (n + j) (by omega)
  rw [List.getElem?_drop, ← this, Nat.add_assoc]
theorem Rd.nil (w : World) (g o : Nat) : Rd w g o [] := fun j hj => absurd hj (Nat.not_lt_zero _)

theorem Dc.ne {w : World} {db g : Nat} {ys : List Value} (D : Dc w db g ys) : g ≠ db := by
  obtain ⟨o, cap, h, _⟩ := D.ex
  obtain ⟨cur, hc⟩ := D.row
  exact ne_ty hc h (by decide)
theorem Dc.keep {w w' : World} {db g : Nat} {ys : List Value} {L : List Nat} (D : Dc w db g ys) (h : Only L w w') (h1 : db ∉ L) (h2 : g ∉ L) : Dc w' db g ys := by
  obtain ⟨o, cap, hd, hl, hc, hr⟩ := D.ex
  obtain ⟨cur, hg⟩ := D.row
  exact ⟨⟨o, cap, h.at h1 hd, hl, hc, hr.same ((h.at h2 hg).trans hg.symm)⟩, ⟨cur, h.at h2 hg⟩⟩

set_option maxHeartbeats 800000 in
theorem take_any (w : World) (db g : Nat) (ys : List Value) (n : Nat) (D : Dc w db g ys) (hn : n ≤ ys.length) :
    Calls Ybaf.prog 31 #[.pointer (some ⟨db, 0, none⟩), .int .i64 n] w fun e w' => (∃ o, e = .returned (.slice (some ⟨g, o, none⟩) n n) ∧ Rd w' g o (ys.take n)) ∧ Dc w' db g (ys.drop n) ∧ Only [db] w w' := by
  have hne := D.ne
  obtain ⟨o, cap, h, hl, hc, hr⟩ := D.ex
  obtain ⟨cur, hg⟩ := D.row
  obtain ⟨c0, c1, z0, z1⟩ := two_cells h
  have hc' : (cap : Int) ≤ 9223372036854775807 := by simp only [maxLen] at hc; omega
  have h1 : (n : Int) ≤ (ys.length : Int) := by omega
  have h2 : (ys.length : Int) ≤ (cap : Int) := by omega
  have h3 : (n : Int) ≤ (cap : Int) := by omega
  have fin : Hid (∀ (o' : Nat), (n < cap → o' = o + n) → (∃ o1, Ending.returned (.slice (some ⟨g, o, none⟩) n n) = Ending.returned (.slice (some ⟨g, o1, none⟩) n n) ∧ Rd (w.setCell ⟨db, 0, none⟩ (.slice (some ⟨g, o', none⟩) (ys.length - n) (cap - n))) g o1 (ys.take n)) ∧
      Dc (w.setCell ⟨db, 0, none⟩ (.slice (some ⟨g, o', none⟩) (ys.length - n) (cap - n))) db g (ys.drop n) ∧ Only [db] w (w.setCell ⟨db, 0, none⟩ (.slice (some ⟨g, o', none⟩) (ys.length - n) (cap - n)))) := by
    intro o' ho'
    have hs : (w.setCell ⟨db, 0, none⟩ (.slice (some ⟨g, o', none⟩) (ys.length - n) (cap - n))).heap[g]? = w.heap[g]? := Below.heap_setCell _ _ _ _ hne
    refine ⟨⟨o, rfl, (hr.take n).same hs⟩, ⟨⟨o', cap - n, ?_, ?_, ?_, ?_⟩, cur, hs.trans hg⟩, (Only.refl _ w).setCell _ (by simp) _⟩
    · rw [List.length_drop]; exact two_set0 h
    · rw [List.length_drop]; omega
    · omega
    · rcases Nat.lt_or_ge n cap with hlt | hge
      · have e := ho' hlt
        subst e
        exact (hr.drop n).same hs
      · rw [List.drop_of_length_le (by omega)]; exact Rd.nil _ _ _
  clear h hc hg hr hne
  by_cases hcn : cap = n
  · have f0 := fin.out o (fun hx => by omega)
    have hz : cap - n = 0 := by omega
    rw [hz] at f0
    have F0 : Hid _ := f0
    clear f0 hz fin
    go_enter Ybaf.func31, Ybaf.ntmps31
    go_wp2
    go_ret
    exact F0.out
  · have F0 : Hid _ := fin.out (o + n) (fun _ => rfl)
    clear fin
    go_enter Ybaf.func31, Ybaf.ntmps31
    go_wp2
    go_ret
    exact F0.out
end Go.Proofs.YbulkacdsFmt
