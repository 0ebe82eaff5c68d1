/- The end of the building of a hand: no program here. -/
import Derived.Test.YbulkabzkFmtTail
namespace Go.Proofs.YbulkabzkFmt
open Go.RowKit

/-- Behind the cap's part: all of the game is there. -/
def GameAt (w0 : World) (bx : Array Value) (n : Nat) (stk bl sp : Nat → Int) (fo : Nat → Bool) (kd : Nat) (rsize : Int) (ff : Bool) (opn : Bool) (nops : Nat) (ops : Nat → Int) (bop bpp : Nat) (w : World) : Prop :=
  ∃ (op mr : Value) (capped : Bool) (cv : Int) (bcp : Nat), Tail w0 bx n stk bl sp fo kd rsize ff op mr w ∧ (opn = false → op = .slice none 0 0) ∧
    (opn = true → op = .slice (some ⟨bop, 0, none⟩) 1 1 ∧ w.cell? ⟨bop, 0, none⟩ = some (.slice (some ⟨bpp, 0, none⟩) nops 4) ∧ ∀ i, i < nops → w.cell? ⟨bpp, i, none⟩ = some (.int .i64 (ops i))) ∧
    (capped = false → mr = .slice none 0 0) ∧ (capped = true → mr = .slice (some ⟨bcp, 0, none⟩) 1 1 ∧ w.cell? ⟨bcp, 0, none⟩ = some (.int .i64 cv)) ∧ 0 ≤ cv ∧ cv ≤ 127

theorem GameAt.no {w0 : World} {bx : Array Value} {n : Nat} {stk bl sp : Nat → Int} {fo : Nat → Bool} {kd : Nat} {rsize : Int} {ff opn : Bool} {nops : Nat} {ops : Nat → Int} {bop bpp : Nat} {op : Value} {w : World}
    (T : Tail w0 bx n stk bl sp fo kd rsize ff op (.slice none 0 0) w) (hf : opn = false → op = .slice none 0 0)
    (ht : opn = true → op = .slice (some ⟨bop, 0, none⟩) 1 1 ∧ w.cell? ⟨bop, 0, none⟩ = some (.slice (some ⟨bpp, 0, none⟩) nops 4) ∧ ∀ i, i < nops → w.cell? ⟨bpp, i, none⟩ = some (.int .i64 (ops i))) :
    GameAt w0 bx n stk bl sp fo kd rsize ff opn nops ops bop bpp w :=
  ⟨op, _, false, 0, 0, T, hf, ht, fun _ => rfl, fun h => (by cases h), by decide, by decide⟩

theorem GameAt.yes {w0 : World} {bx : Array Value} {n : Nat} {stk bl sp : Nat → Int} {fo : Nat → Bool} {kd : Nat} {rsize : Int} {ff opn : Bool} {nops : Nat} {ops : Nat → Int} {bop bpp : Nat} {op : Value} {w : World}
    (T : Tail w0 bx n stk bl sp fo kd rsize ff op (.slice none 0 0) w) (hf : opn = false → op = .slice none 0 0)
    (ht : opn = true → op = .slice (some ⟨bop, 0, none⟩) 1 1 ∧ w.cell? ⟨bop, 0, none⟩ = some (.slice (some ⟨bpp, 0, none⟩) nops 4) ∧ ∀ i, i < nops → w.cell? ⟨bpp, i, none⟩ = some (.int .i64 (ops i)))
    (hne : opn = true → bop ≠ w0.heap.size + 7 ∧ bpp ≠ w0.heap.size + 7) {cv : Int} (h0 : 0 ≤ cv) (h1 : cv ≤ 127) :
    GameAt w0 bx n stk bl sp fo kd rsize ff opn nops ops bop bpp ((w.setCell ⟨w0.heap.size + 7, 8, none⟩ (.slice (some ⟨w.heap.size, 0, none⟩) 1 1)).alloc (.cells #[.int .i64 cv] 3)) := by
  rw [set_alloc (b := w0.heap.size + 7) (by have := T.sz; omega)]
  have hb := (Below.refl _ w).alloc (Nat.le_refl _) (.cells #[.int .i64 cv] 3)
  have T1 := T.later hb
  have T2 := T1.put (game_upd8 T1.gc (mr' := .slice (some ⟨w.heap.size, 0, none⟩) 1 1))
  have hs := T.sz
  refine ⟨op, _, true, cv, w.heap.size, T2, hf, fun h => ?_, fun h => (by cases h), fun _ => ⟨rfl, ?_⟩, h0, h1⟩
  · obtain ⟨e1, e2, e3⟩ := ht h
    obtain ⟨n1, n2⟩ := hne h
    exact ⟨e1, (cell_far (fun e => n1 e.symm)).trans (cellLater hb e2), fun i hi => (cell_far (fun e => n2 e.symm)).trans (cellLater hb (e3 i hi))⟩
  · rw [cell_far (by omega), alloc_at rfl]; rfl

theorem HandAt.made {w0 : World} {bx : Array Value} {n : Nat} {stk bl sp : Nat → Int} {fo : Nat → Bool} {kd : Nat} {rsize : Int} {ff opn : Bool} {nops : Nat} {ops : Nat → Int} {bop bpp : Nat} {w w' : World}
    (G : GameAt w0 bx n stk bl sp fo kd rsize ff opn nops ops bop bpp w) (hb : Below w.heap.size w w') (h : Nat) (x1 x2 x5 x11 x13 x14 : Value) (raises opened roundBet lraise actor : Int)
    (hc : ∀ j, w'.cell? ⟨h, j, none⟩ = (#[.pointer (some ⟨w0.heap.size + 7, 0, none⟩), x1, x2, .slice (some ⟨w0.heap.size + 3, 0, none⟩) n n, .slice (some ⟨w0.heap.size + 4, 0, none⟩) n n, x5, .int .i64 0, .int .i64 raises, .int .i64 opened, .int .i64 roundBet, .int .i64 lraise, x11, .int .i64 actor, x13, x14] : Array Value)[j]?)
    (hn2 : 2 ≤ n) (hn8 : n ≤ 8) (r1 : ∀ i, i < n → 0 ≤ stk i ∧ stk i ≤ 65535) (r2 : ∀ i, i < n → 0 ≤ bl i ∧ bl i ≤ 255) (r3 : ∀ i, i < n → 0 ≤ sp i ∧ sp i ≤ stk i)
    (hnops : nops ≤ 4) (hops : ∀ i, i < nops → 0 ≤ ops i ∧ ops i ≤ 255) (ra : 0 ≤ raises ∧ raises ≤ 4) (oa : 0 ≤ opened ∧ opened ≤ 5) (ba : 0 ≤ roundBet ∧ roundBet ≤ 65535) (la : 0 ≤ lraise ∧ lraise ≤ 65535) (aa : 0 ≤ actor ∧ actor < n) (sa : 0 ≤ rsize ∧ rsize ≤ 255) :
    ∃ L S, L.h = h ∧ S.Ok ∧ HandAt w' L S ∧ Below w0.heap.size w0 w' := by
  obtain ⟨op, mr, capped, cv, bcp, T, hf, ht, hcf, hct, hv0, hv1⟩ := G
  have T' := T.later hb
  have g := T'.gc
  refine ⟨⟨h, w0.heap.size + 7, w0.heap.size + 1, w0.heap.size + 2, w0.heap.size + 3, w0.heap.size + 4, w0.heap.size + 5, bop, bpp, bcp⟩,
    ⟨n, kd, stk, bl, sp, fo, actor.toNat, opn, nops, ops, opened.toNat, capped, cv, raises, rsize, roundBet, lraise, ff⟩, rfl, ?_, ?_, T'.bel⟩
  · exact {
      n2 := hn2
      n8 := hn8
      stk0 := fun i hi => (r1 i hi).1
      stk1 := fun i hi => (r1 i hi).2
      bl0 := fun i hi => (r2 i hi).1
      bl1 := fun i hi => (r2 i hi).2
      sp0 := fun i hi => (r3 i hi).1
      sp1 := fun i hi => (r3 i hi).2
      act := by show actor.toNat < n; omega
      nops4 := hnops
      ops0 := fun i hi => (hops i hi).1
      ops1 := fun i hi => (hops i hi).2
      opened1 := by show opened.toNat ≤ 5; omega
      cap0 := hv0
      cap1 := hv1
      raises0 := ra.1
      raises1 := ra.2
      rsize0 := sa.1
      rsize1 := sa.2
      rb0 := ba.1
      rb1 := ba.2
      lr0 := la.1
      lr1 := la.2 }
  · exact {
      h0 := hc 0
      h3 := hc 3
      h4 := hc 4
      h6 := hc 6
      h7 := hc 7
      h8 := (hc 8).trans (by show some (Value.int .i64 opened) = some (Value.int .i64 (opened.toNat : Int)); rw [Int.toNat_of_nonneg oa.1])
      h9 := hc 9
      h10 := hc 10
      h12 := (hc 12).trans (by show some (Value.int .i64 actor) = some (Value.int .i64 (actor.toNat : Int)); rw [Int.toNat_of_nonneg aa.1])
      g0 := g 0
      g1 := g 1
      g3 := g 3
      g5f := fun e => by rw [g 5, hf e]; rfl
      g5t := fun e => by rw [g 5, (ht e).1]; rfl
      op0 := fun e => cellLater hb (ht e).2.1
      opi := fun e i hi => cellLater hb ((ht e).2.2 i hi)
      g6 := g 6
      rs := T'.rs
      g8f := fun e => by rw [g 8, hcf e]; rfl
      g8t := fun e => by rw [g 8, (hct e).1]; rfl
      cp := fun e => cellLater hb (hct e).2
      g9 := g 9
      g14 := g 14
      sti := T'.c1
      bli := T'.c2
      spi := T'.c3
      foi := T'.c4 }

theorem mod_bd {x m : Int} (hm : 0 < m) : 0 ≤ x % m ∧ x % m ≤ m - 1 :=
  ⟨Int.emod_nonneg _ (by omega), by have := Int.emod_lt_of_pos x hm; omega⟩

theorem HandAt.fin {w0 : World} {bx : Array Value} {n : Nat} {stk bl sp : Nat → Int} {fo : Nat → Bool} {kd : Nat} {rsize : Int} {ff opn : Bool} {nops : Nat} {ops : Nat → Int} {bop bpp : Nat} {w : World}
    (G : GameAt w0 bx n stk bl sp fo kd rsize ff opn nops ops bop bpp w) (A B : Obj) (x5 x14 : Value) (raises opened roundBet lraise actor mx : Int)
    (hR : (∀ i, i < n → 0 ≤ stk i ∧ stk i ≤ 65535) ∧ (∀ i, i < n → 0 ≤ bl i ∧ bl i ≤ 255) ∧ (∀ i, i < n → 0 ≤ sp i ∧ sp i ≤ stk i) ∧ (∀ i, i < nops → 0 ≤ ops i ∧ ops i ≤ 255) ∧ (2 ≤ n ∧ n ≤ 8) ∧ nops ≤ 4 ∧ 0 ≤ mx ∧ mx ≤ 65535)
    (hB : 0 ≤ actor ∧ 0 ≤ opened ∧ 0 ≤ raises ∧ 0 ≤ roundBet ∧ 0 ≤ lraise ∧ lraise ≤ 65535) (hB2 : roundBet ≤ 65535 ∧ 0 ≤ rsize ∧ rsize ≤ 255) :
    ∃ (L : Loc) (S : St), Ending.returned (.pointer (some ⟨w.heap.size + 2, 0, none⟩)) = .returned (.pointer (some ⟨L.h, 0, none⟩)) ∧ S.Ok ∧
      HandAt (((w.alloc A).alloc B).alloc (.cells #[.pointer (some ⟨w0.heap.size + 7, 0, none⟩), .slice none 0 0, .slice none 0 0, .slice (some ⟨w0.heap.size + 3, 0, none⟩) n n, .slice (some ⟨w0.heap.size + 4, 0, none⟩) n n, x5, .int .i64 0, .int .i64 (raises % 5), .int .i64 (opened % (nops + 2)), .int .i64 (roundBet % (mx + 1)), .int .i64 lraise, .int .i64 (-1), .int .i64 (actor % n), .bool false, x14] 56)).drew L S ∧
      Below w0.heap.size w0 (((w.alloc A).alloc B).alloc (.cells #[.pointer (some ⟨w0.heap.size + 7, 0, none⟩), .slice none 0 0, .slice none 0 0, .slice (some ⟨w0.heap.size + 3, 0, none⟩) n n, .slice (some ⟨w0.heap.size + 4, 0, none⟩) n n, x5, .int .i64 0, .int .i64 (raises % 5), .int .i64 (opened % (nops + 2)), .int .i64 (roundBet % (mx + 1)), .int .i64 lraise, .int .i64 (-1), .int .i64 (actor % n), .bool false, x14] 56)).drew := by
  obtain ⟨r1, r2, r3, hops, ⟨hn2, hn8⟩, hnops, hm0, hm1⟩ := hR
  obtain ⟨ba, bo, br, bb, bl0, bl1⟩ := hB
  have e1 := mod_bd (x := raises) (m := 5) (by decide)
  have e2 := mod_bd (x := opened) (m := (nops : Int) + 2) (by omega)
  have e3 := mod_bd (x := roundBet) (m := mx + 1) (by omega)
  have e4 := mod_bd (x := actor) (m := (n : Int)) (by omega)
  obtain ⟨L, S, hL, hO, hH, hb⟩ := HandAt.made G (Below.drew (bel3 w A B _)) (w.heap.size + 2) (.slice none 0 0) (.slice none 0 0) x5 (.int .i64 (-1)) (.bool false) x14 (raises % 5) (opened % (nops + 2)) (roundBet % (mx + 1)) lraise (actor % n)
    (fun j => World.cell?_alloc_at _ 56 (w.heap.size + 2) j (by simp)) hn2 hn8 r1 r2 r3 hnops hops ⟨e1.1, by omega⟩ ⟨e2.1, by omega⟩ ⟨e3.1, by omega⟩ ⟨bl0, bl1⟩ ⟨e4.1, by omega⟩ hB2.2
  exact ⟨L, S, by rw [hL], hO, hH, hb⟩

end Go.Proofs.YbulkabzkFmt
