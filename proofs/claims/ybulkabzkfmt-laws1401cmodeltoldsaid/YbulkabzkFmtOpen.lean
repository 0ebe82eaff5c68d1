/- The struct that both laws take, opened: what the walks are told of it. -/
import Derived.Test.YbulkabzkFmtAgrees
import Derived.ProofKit
import Derived.OpenShut
import Derived.Lib.SmallJoins
import Derived.Deep.Grids
set_option linter.unusedVariables false
set_option linter.unusedSimpArgs false
namespace Go.Proofs.YbulkabzkFmt
open Go.ChangeShapes Go.WideShapes Go.ChangeAt Go.RowKit

theorem arr15 {cs : Array Value} (h : cs.size = 15) : ∃ c0 c1 c2 c3 c4 c5 c6 c7 c8 c9 c10 c11 c12 c13 c14, cs = #[c0, c1, c2, c3, c4, c5, c6, c7, c8, c9, c10, c11, c12, c13, c14] := by
  obtain ⟨l⟩ := cs
  match l, h with
  | [c0, c1, c2, c3, c4, c5, c6, c7, c8, c9, c10, c11, c12, c13, c14], _ => exact ⟨c0, c1, c2, c3, c4, c5, c6, c7, c8, c9, c10, c11, c12, c13, c14, rfl⟩

theorem lst15 {α : Type} {xs : List α} (h : xs.length = 15) : ∃ y0 y1 y2 y3 y4 y5 y6 y7 y8 y9 y10 y11 y12 y13 y14, xs = [y0, y1, y2, y3, y4, y5, y6, y7, y8, y9, y10, y11, y12, y13, y14] := by
  match xs, h with
  | [y0, y1, y2, y3, y4, y5, y6, y7, y8, y9, y10, y11, y12, y13, y14], _ => exact ⟨y0, y1, y2, y3, y4, y5, y6, y7, y8, y9, y10, y11, y12, y13, y14, rfl⟩

theorem intsIn {H : Type} {enc : TypeId × Value → H} {w : World} {held : Bool} {t e : TypeId} {k : IntKind} {fuel : Nat} {c : Value} {x : DataW H × List MemPlace} (ht : Ybaf.prog.underlying t = some (.slice e)) (he : Ybaf.prog.underlying e = some (.int k)) (hc : Ybaf.prog.cellsOf e = 1)
    (h : DataW.trod enc Ybaf.prog w 0 (fun _ => true) held fuel t [c] = some x) :
    ∃ (a : Option Addr) (l cp b o : Nat) (f : Nat → Int), c = .slice a l cp ∧ (l : Int) ≤ 9223372036854775807 ∧ ∀ i, i < l → a = some ⟨b, o, none⟩ ∧ w.cell? ⟨b, o + i, none⟩ = some (.int k (f i)) ∧ (Lit.int k (f i)).wf = true := by
  rcases open_ints ht he hc h with ⟨hcs, _⟩ | ⟨a, l, cp, zs, hcs, _, hl, hm, hz, _, hcell, hwz⟩
  · simp only [List.cons.injEq, and_true] at hcs
    exact ⟨none, 0, 0, 0, 0, fun _ => 0, hcs, by omega, fun i hi => absurd hi (by omega)⟩
  · simp only [List.cons.injEq, and_true] at hcs
    simp only [if_true] at hz
    have hmx : (l : Int) ≤ 9223372036854775807 := by have := hm; unfold maxLen at this; omega
    by_cases h0 : l = 0
    · exact ⟨some a, l, cp, 0, 0, fun _ => 0, hcs, hmx, fun i hi => absurd hi (by omega)⟩
    · obtain ⟨b, o, rfl, hc'⟩ := ints_at hcell (by omega)
      refine ⟨_, l, cp, b, o, fun i => zs.getD i 0, hcs, hmx, fun i hi => ⟨rfl, hc' i (by omega), ?_⟩⟩
      have hi' : i < zs.length := by omega
      show (Lit.int k (zs.getD i 0)).wf = true
      rw [List.getD_eq_getElem?_getD, List.getElem?_eq_getElem hi']
      exact hwz _ (List.getElem_mem hi')

theorem boolsIn {H : Type} {enc : TypeId × Value → H} {w : World} {held : Bool} {t e : TypeId} {fuel : Nat} {c : Value} {x : DataW H × List MemPlace} (ht : Ybaf.prog.underlying t = some (.slice e)) (he : Ybaf.prog.underlying e = some .bool) (hc : Ybaf.prog.cellsOf e = 1)
    (h : DataW.trod enc Ybaf.prog w 0 (fun _ => true) held fuel t [c] = some x) :
    ∃ (a : Option Addr) (l cp b o : Nat) (f : Nat → Bool), c = .slice a l cp ∧ (l : Int) ≤ 9223372036854775807 ∧ ∀ i, i < l → a = some ⟨b, o, none⟩ ∧ w.cell? ⟨b, o + i, none⟩ = some (.bool (f i)) := by
  rcases Deep.open_bools ht he hc h with ⟨hcs, _⟩ | ⟨a, l, cp, B, hcs, _, hl, hm, _, hcell⟩
  · simp only [List.cons.injEq, and_true] at hcs
    exact ⟨none, 0, 0, 0, 0, fun _ => false, hcs, by omega, fun i hi => absurd hi (by omega)⟩
  · simp only [List.cons.injEq, and_true] at hcs
    have hmx : (l : Int) ≤ 9223372036854775807 := by have := hm; unfold maxLen at this; omega
    by_cases h0 : l = 0
    · exact ⟨some a, l, cp, 0, 0, fun _ => false, hcs, hmx, fun i hi => absurd hi (by omega)⟩
    · obtain ⟨b, o, s⟩ := a
      have hs : s = none := by simpa [Addr.add] using World.cell?_spot (hcell 0 (by omega))
      subst hs
      exact ⟨_, l, cp, b, o, B, hcs, hmx, fun i hi => ⟨rfl, by rw [← Go.WideShapes.add_plain]; exact hcell i (by omega)⟩⟩

theorem wf8 {z : Int} (h : (Lit.int .u8 z).wf = true) : 0 ≤ z ∧ z ≤ 255 := by
  simp [Lit.wf, IntKind.min, IntKind.max, IntKind.signed, IntKind.bits] at h
  omega
theorem wf16 {z : Int} (h : (Lit.int .u16 z).wf = true) : 0 ≤ z ∧ z ≤ 65535 := by
  simp [Lit.wf, IntKind.min, IntKind.max, IntKind.signed, IntKind.bits] at h
  omega
theorem wfi8 {z : Int} (h : (Lit.int .i8 z).wf = true) : -128 ≤ z ∧ z ≤ 127 := by
  simp [Lit.wf, IntKind.min, IntKind.max, IntKind.signed, IntKind.bits] at h
  omega

theorem cells50 : Ybaf.prog.cellsOf 50 = 15 := by kernel_rfl
theorem cells1 : Ybaf.prog.cellsOf 5 = 1 ∧ Ybaf.prog.cellsOf 22 = 1 ∧ Ybaf.prog.cellsOf 24 = 1 ∧ Ybaf.prog.cellsOf 47 = 1 ∧ Ybaf.prog.cellsOf 4 = 1 ∧ Ybaf.prog.cellsOf 48 = 1 ∧ Ybaf.prog.cellsOf 23 = 1 :=
  ⟨by kernel_rfl, by kernel_rfl, by kernel_rfl, by kernel_rfl, by kernel_rfl, by kernel_rfl, by kernel_rfl⟩

set_option maxRecDepth 100000 in
set_option maxHeartbeats 800000 in
/-- The struct by value, opened. -/
theorem open50 {H : Type} {enc : TypeId × Value → H} {W : World} {r : Reach} {b0 : Nat} {v : Value} {d : DataW H} {p : List MemPlace} (hv : Value.okWide Ybaf.prog W r b0 50 v) (h : DataW.Trod enc Ybaf.prog W 0 (fun _ => true) true 50 v d p) :
    ∃ (kind actor opened cap raises rsize roundBet lraise : Int) (useOp ff : Bool) (b1 o1 b2 o2 b3 o3 b4 o4 b5 o5 : Nat) (a1 a2 a3 a4 a5 : Option Addr) (l1 c1 l2 c2 l3 c3 l4 c4 l5 c5 : Nat) (f1 f2 f3 f5 : Nat → Int) (f4 : Nat → Bool),
      v = .agg #[.int .u8 kind, .slice a1 l1 c1, .slice a2 l2 c2, .slice a3 l3 c3, .slice a4 l4 c4, .int .u8 actor, .bool useOp, .slice a5 l5 c5, .int .u8 opened, .int .i8 cap, .int .u8 raises, .int .u8 rsize, .int .u16 roundBet, .int .u16 lraise, .bool ff] ∧
      InAt W kind actor opened cap raises rsize roundBet lraise b1 o1 b2 o2 b3 o3 b4 o4 b5 o5 a1 a2 a3 a4 a5 l1 l2 l3 l4 l5 f1 f2 f3 f5 f4 := by
  obtain ⟨cs, rfl, hsz⟩ := okWide_struct Ybaf.underlying50 hv
  obtain ⟨c0, c1, c2, c3, c4, c5, c6, c7, c8, c9, c10, c11, c12, c13, c14, rfl⟩ := arr15 (hsz.trans cells50)
  obtain ⟨fuel, hf⟩ := h
  obtain ⟨xs, n, -, -, -, hlen, hfs⟩ := DataW.trod_struct Ybaf.underlying50 hf
  obtain ⟨y0, y1, y2, y3, y4, y5, y6, y7, y8, y9, y10, y11, y12, y13, y14, rfl⟩ := lst15 hlen
  obtain ⟨z5, z22, z24, z47, z4, z48, z23⟩ := cells1
  have h0 := hfs 0 _ rfl
  have h1 := hfs 1 _ rfl
  have h2 := hfs 2 _ rfl
  have h3 := hfs 3 _ rfl
  have h4 := hfs 4 _ rfl
  have h5 := hfs 5 _ rfl
  have h6 := hfs 6 _ rfl
  have h7 := hfs 7 _ rfl
  have h8 := hfs 8 _ rfl
  have h9 := hfs 9 _ rfl
  have h10 := hfs 10 _ rfl
  have h11 := hfs 11 _ rfl
  have h12 := hfs 12 _ rfl
  have h13 := hfs 13 _ rfl
  have h14 := hfs 14 _ rfl
  simp [Value.cells, z5, z22, z24, z47, z4, z48, z23] at h0 h1 h2 h3 h4 h5 h6 h7 h8 h9 h10 h11 h12 h13 h14
  obtain ⟨kind, e0, -, w0⟩ := DataW.trod_int Ybaf.underlying5 h0
  simp only [List.cons.injEq, and_true] at e0
  subst e0
  obtain ⟨a1, l1, q1, b1, o1, f1, e1, m1, g1⟩ := intsIn Ybaf.underlying22 Ybaf.underlying23 (by kernel_rfl) h1
  subst e1
  obtain ⟨a2, l2, q2, b2, o2, f2, e2, m2, g2⟩ := intsIn Ybaf.underlying24 Ybaf.underlying5 (by kernel_rfl) h2
  subst e2
  obtain ⟨a3, l3, q3, b3, o3, f3, e3, m3, g3⟩ := intsIn Ybaf.underlying22 Ybaf.underlying23 (by kernel_rfl) h3
  subst e3
  obtain ⟨a4, l4, q4, b4, o4, f4, e4, m4, g4⟩ := boolsIn Ybaf.underlying47 Ybaf.underlying4 (by kernel_rfl) h4
  subst e4
  obtain ⟨actor, e5, -, w5⟩ := DataW.trod_int Ybaf.underlying5 h5
  simp only [List.cons.injEq, and_true] at e5
  subst e5
  obtain ⟨useOp, e6, -⟩ := DataW.trod_bool Ybaf.underlying4 h6
  simp only [List.cons.injEq, and_true] at e6
  subst e6
  obtain ⟨a5, l5, q5, b5, o5, f5, e7, m5, g5⟩ := intsIn Ybaf.underlying24 Ybaf.underlying5 (by kernel_rfl) h7
  subst e7
  obtain ⟨opened, e8, -, w8⟩ := DataW.trod_int Ybaf.underlying5 h8
  simp only [List.cons.injEq, and_true] at e8
  subst e8
  obtain ⟨cap, e9, -, w9⟩ := DataW.trod_int Ybaf.underlying48 h9
  simp only [List.cons.injEq, and_true] at e9
  subst e9
  obtain ⟨raises, e10, -, w10⟩ := DataW.trod_int Ybaf.underlying5 h10
  simp only [List.cons.injEq, and_true] at e10
  subst e10
  obtain ⟨rsize, e11, -, w11⟩ := DataW.trod_int Ybaf.underlying5 h11
  simp only [List.cons.injEq, and_true] at e11
  subst e11
  obtain ⟨roundBet, e12, -, w12⟩ := DataW.trod_int Ybaf.underlying23 h12
  simp only [List.cons.injEq, and_true] at e12
  subst e12
  obtain ⟨lraise, e13, -, w13⟩ := DataW.trod_int Ybaf.underlying23 h13
  simp only [List.cons.injEq, and_true] at e13
  subst e13
  obtain ⟨ff, e14, -⟩ := DataW.trod_bool Ybaf.underlying4 h14
  simp only [List.cons.injEq, and_true] at e14
  subst e14
  refine ⟨kind, actor, opened, cap, raises, rsize, roundBet, lraise, useOp, ff, b1, o1, b2, o2, b3, o3, b4, o4, b5, o5, a1, a2, a3, a4, a5, l1, q1, l2, q2, l3, q3, l4, q4, l5, q5, f1, f2, f3, f5, f4, rfl, ?_⟩
  exact {
    kd0 := (wf8 w0).1
    kd1 := (wf8 w0).2
    ac0 := (wf8 w5).1
    ac1 := (wf8 w5).2
    op0 := (wf8 w8).1
    op1 := (wf8 w8).2
    cp0 := (wfi8 w9).1
    cp1 := (wfi8 w9).2
    rs0 := (wf8 w10).1
    rs1 := (wf8 w10).2
    rz0 := (wf8 w11).1
    rz1 := (wf8 w11).2
    rb0 := (wf16 w12).1
    rb1 := (wf16 w12).2
    lr0 := (wf16 w13).1
    lr1 := (wf16 w13).2
    hl1 := m1
    hl2 := m2
    hl3 := m3
    hl4 := m4
    hl5 := m5
    h1 := fun i hi => ⟨(g1 i hi).1, (g1 i hi).2.1, wf16 (g1 i hi).2.2⟩
    h2 := fun i hi => ⟨(g2 i hi).1, (g2 i hi).2.1, wf8 (g2 i hi).2.2⟩
    h3 := fun i hi => ⟨(g3 i hi).1, (g3 i hi).2.1, wf16 (g3 i hi).2.2⟩
    h4 := g4
    h5 := fun i hi => ⟨(g5 i hi).1, (g5 i hi).2.1, wf8 (g5 i hi).2.2⟩ }

end Go.Proofs.YbulkabzkFmt
