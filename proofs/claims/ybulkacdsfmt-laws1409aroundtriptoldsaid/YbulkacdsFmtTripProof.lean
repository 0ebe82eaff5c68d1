/- LawS1409ARoundTrip: the row's step and the told and tied card. -/
import Derived.Test.YbulkacdsFmtCards
import Derived.Test.YbulkacdsFmtTie
import Derived.Test.YbulkacdsFmtTripB
import Derived.ProofKit
import Derived.OpenShut
import Derived.OpenVars
import Derived.ChangeOld
import Derived.Below
import Derived.Deep.Grids
import Derived.Lib.SmallJoins
import Derived.Stop.JoinedAt
import Derived.Stop.Texts
import Derived.Stop.JoinedTold
import Derived.Stop.LaidErr
import Derived.SevenTiedAt
set_option linter.unusedVariables false
set_option linter.unusedSimpArgs false
namespace Go.Proofs.YbulkacdsFmt
open Go.ChangeShapes Go.WideShapes Go.ChangeAt Go.RowKit
open Go.Extern.Stop Go.Stop Go.Extern

namespace tr4
theorem own : ownKnob Ybaf.prog.godebug = none := by kernel_rfl
theorem laidOut : laidOutB Ybaf.prog = true := by kernel_rfl
theorem stopKnobs : Ybaf.pinned.checked.prog.stopKnobs = [] := by kernel_rfl
theorem quiet (os : Os) : Stop.quiet Ybaf.pinned.checked.prog os := by
  intro k hk
  rw [stopKnobs] at hk
  cases hk

theorem u8_bd {z : Int} (h : (Lit.int .u8 z).wf = true) : 0 ≤ z ∧ z ≤ 255 := by
  simp [Lit.wf, IntKind.min, IntKind.max, IntKind.signed, IntKind.bits] at h
  omega

theorem cells22 : Ybaf.prog.cellsOf 22 = 1 := by kernel_rfl
theorem cells5 : Ybaf.prog.cellsOf 5 = 1 := by kernel_rfl

/-- A slice of bytes, opened. -/
theorem bytesIn {H : Type} {enc : TypeId × Value → H} {w : World} {held : Bool} {fuel : Nat} {c : Value} {x : DataW H × List MemPlace} (h : DataW.trod enc Ybaf.prog w 0 (fun _ => true) held fuel 22 [c] = some x) :
    ∃ (a : Option Addr) (b o l cp : Nat) (f : Nat → Int), c = .slice a l cp ∧ In w w.heap.size a b o l cp f ∧ l ≤ cp ∧ cp ≤ maxLen := by
  rcases open_ints Ybaf.underlying22 Ybaf.underlying5 cells5 h with ⟨hcs, _⟩ | ⟨a, l, cp, zs, hcs, _, hl, hm, hz, _, hcell, hwz⟩
  · simp only [List.cons.injEq, and_true] at hcs
    exact ⟨none, 0, 0, 0, 0, fun _ => 0, hcs, ⟨fun i hi => absurd hi (Nat.not_lt_zero _), fun i hi => absurd hi (Nat.not_lt_zero _), fun _ => rfl⟩, Nat.le_refl _, Nat.zero_le _⟩
  · simp only [List.cons.injEq, and_true] at hcs
    simp only [if_true] at hz
    by_cases h0 : l = 0
    · subst h0
      exact ⟨some a, 0, 0, 0, cp, fun _ => 0, hcs, ⟨fun i hi => absurd hi (Nat.not_lt_zero _), fun i hi => absurd hi (Nat.not_lt_zero _), fun h => by cases h⟩, hl, hm⟩
    · obtain ⟨b, o, rfl, hc'⟩ := ints_at hcell (by omega)
      refine ⟨_, b, o, l, cp, fun i => zs.getD i 0, hcs, ⟨fun i hi => ⟨rfl, hc' i (by omega), ?_⟩, fun i hi => World.block_lt_of_cell? _ _ (hc' 0 (by omega)), fun h => by cases h⟩, hl, hm⟩
      have hi' : i < zs.length := by omega
      have hmem : zs.getD i 0 ∈ zs := by
        rw [List.getD_eq_getElem?_getD, List.getElem?_eq_getElem hi']
        exact List.getElem_mem hi'
      exact u8_bd (hwz _ hmem)

/-- A slice of slices of bytes, opened. -/
theorem certsIn {H : Type} {enc : TypeId × Value → H} {w : World} {held : Bool} {fuel : Nat} {v : Value} {x : DataW H × List MemPlace} (h : DataW.trod enc Ybaf.prog w 0 (fun _ => true) held fuel 23 [v] = some x) :
    ∃ (a : Option Addr) (b o l c : Nat) (ca : Nat → Option Addr) (cb co cl cc : Nat → Nat) (cf : Nat → Nat → Int), v = .slice a l c ∧ Craw w a b o l ca cb co cl cc cf := by
  rcases Deep.open_slice1 Ybaf.underlying23 cells22 h with ⟨hcs, _⟩ | ⟨a, l, cap, m, n, V, D, Pl, hcs, _, hl, hm, hmm, _, hx⟩
  · simp only [List.cons.injEq, and_true] at hcs
    exact ⟨none, 0, 0, 0, 0, fun _ => none, fun _ => 0, fun _ => 0, fun _ => 0, fun _ => 0, fun _ _ => 0, hcs, ⟨fun i hi => absurd hi (Nat.not_lt_zero _), fun i hi => absurd hi (Nat.not_lt_zero _)⟩⟩
  · simp only [List.cons.injEq, and_true] at hcs
    simp only [if_true] at hmm
    have each : ∀ i, i < m → ∃ y : Option Addr × Nat × Nat × Nat × Nat × (Nat → Int), V i = .slice y.1 y.2.2.2.1 y.2.2.2.2.1 ∧ In w w.heap.size y.1 y.2.1 y.2.2.1 y.2.2.2.1 y.2.2.2.2.1 y.2.2.2.2.2 := by
      intro i hi
      obtain ⟨a', b', o', l', c', f', h1, h2, _⟩ := bytesIn (hx i hi).2
      exact ⟨(a', b', o', l', c', f'), h1, h2⟩
    obtain ⟨y, hy⟩ := Deep.choose_lt each
    by_cases h0 : l = 0
    · subst h0
      exact ⟨some a, 0, 0, 0, cap, fun _ => none, fun _ => 0, fun _ => 0, fun _ => 0, fun _ => 0, fun _ _ => 0, hcs, ⟨fun i hi => absurd hi (Nat.not_lt_zero _), fun i hi => absurd hi (Nat.not_lt_zero _)⟩⟩
    · obtain ⟨b, o, s⟩ := a
      have hs : s = none := by simpa [Addr.add] using World.cell?_spot (hx 0 (by omega)).1
      subst hs
      have hcell : ∀ i, i < l → w.cell? ⟨b, o + i, none⟩ = some (V i) := fun i hi => by rw [← Go.WideShapes.add_plain]; exact (hx i (by omega)).1
      exact ⟨_, b, o, l, cap, fun i => (y i).1, fun i => (y i).2.1, fun i => (y i).2.2.1, fun i => (y i).2.2.2.1, fun i => (y i).2.2.2.2.1, fun i => (y i).2.2.2.2.2, hcs,
        ⟨fun i hi => ⟨rfl, by rw [hcell i hi, (hy i (by omega)).1], (hy i (by omega)).2⟩, fun i hi => World.block_lt_of_cell? _ _ (hcell 0 (by omega))⟩⟩

theorem walk (w : World) (a : Option Addr) (b o l c : Nat) (ca : Nat → Option Addr) (cb co cl cc : Nat → Nat) (cf : Nat → Nat → Int) (ha sa typ sha : Int) (ah : Option Addr) (bh oh lh ch : Nat) (fh : Nat → Int) (av : Option Addr) (bv ov lv cv : Nat) (fv : Nat → Int)
    (ht : 0 ≤ typ ∧ typ ≤ 255) (C : Craw w a b o l ca cb co cl cc cf) (I : In w w.heap.size ah bh oh lh ch fh) (J : In w w.heap.size av bv ov lv cv fv) (h1 : lh ≤ ch ∧ ch ≤ maxLen) (h2 : lv ≤ cv ∧ cv ≤ maxLen) :
    Calls Ybaf.prog 4 #[.slice a l c, .int .u8 ha, .int .u8 sa, .int .u8 typ, .int .u8 sha, .slice ah lh ch, .slice av lv cv] w fun e w' => e = .returned (.bool true) ∧ Below w.heap.size w w' := by
  by_cases k1 : 1024 < (l : Int)
  · exact tr_long1 w a l c ha sa typ sha ah lh ch av lv cv k1
  by_cases k2 : 70000 < (lh : Int)
  · exact tr_long2 w a l c ha sa typ sha ah lh ch av lv cv (by omega) k2
  by_cases k3 : 70000 < (lv : Int)
  · exact tr_long3 w a l c ha sa typ sha ah lh ch av lv cv (by omega) (by omega) k3
  have m1 : (ch : Int) ≤ 9223372036854775807 := by have := h1.2; unfold maxLen at this; omega
  have m2 : (cv : Int) ≤ 9223372036854775807 := by have := h2.2; unfold maxLen at this; omega
  obtain ⟨ht0, ht1⟩ := ht
  exact (trpA w a b o l c ca cb co cl cc cf ha sa typ sha _ ah bh oh lh ch fh av bv ov lv cv fv (by omega) (by omega) (by omega) (by omega) (by omega) m1 m2 ht0 ht1 rfl C I J).2
    ⟨trpB w a b o l c ca cb co cl cc cf ha sa typ sha _ ah bh oh lh ch fh av bv ov lv cv fv (by omega) (by omega) (by omega) (by omega) (by omega) m1 m2 ht0 ht1 rfl C I J⟩

set_option maxRecDepth 100000 in
theorem met (os : Os) (args : Array Value) : laidMet Ybaf.prog Rows.lawS1409ARoundTripRow.laid (World.forCall ({ World.holding Ybaf.prog os ⟨#[.cells #[.string ⟨#[97, 32, 108, 101, 110, 103, 116, 104, 32, 114, 117, 110, 115, 32, 112, 97, 115, 116, 32, 116, 104, 101, 32, 101, 110, 100, 32, 111, 102, 32, 116, 104, 101, 32, 100, 97, 116, 97]⟩] 62], #[], []⟩ with
    heap := (World.holding Ybaf.prog os ⟨#[.cells #[.string ⟨#[97, 32, 108, 101, 110, 103, 116, 104, 32, 114, 117, 110, 115, 32, 112, 97, 115, 116, 32, 116, 104, 101, 32, 101, 110, 100, 32, 111, 102, 32, 116, 104, 101, 32, 100, 97, 116, 97]⟩] 62], #[], []⟩).heap.modify 0 fun
      | .cells _ t frozen => .cells #[.iface 60 (.pointer (some ⟨(World.holding Ybaf.prog default ⟨#[], #[], []⟩).heap.size, 0, none⟩))] t frozen
      | o => o }) (fun _ _ => 0) ⟨#[], args, []⟩).memory :=
  laidMet_of_run (ps := [.cell 0 0, .cell (World.holding Ybaf.prog default ⟨#[], #[], []⟩).heap.size 0]) 8 (by kernel_rfl) (by kernel_rfl) (by kernel_rfl)

set_option maxRecDepth 100000 in
set_option maxHeartbeats 1600000 in
theorem lifted (os : Os) (started : os.Started) (H : Type) (enc : TypeId × Value → H) :
    ReturnsInTold none {} Ybaf.checked os 4 .any Input.okWide ((OpenSpec.ofChange Rows.lawS1409ARoundTripSpec).preRow enc Ybaf.prog Ybaf.f4 [] false Rows.lawS1409ARoundTripRow.laid) (fun F => ((OpenSpec.ofChange Rows.lawS1409ARoundTripSpec).at F).post enc Ybaf.prog Ybaf.f4 false true false false) (aloneAtReturn Ybaf.prog) nothingAlways := by
  refine returnsInTold_of_row (C := Ybaf.checked) (s := OpenSpec.ofChange Rows.lawS1409ARoundTripSpec) (by kernel_rfl) own started (by kernel_rfl) Ybaf.func4
    (OpenSpec.witness_stopped_at (enc := enc) (C := Ybaf.checked) false ({ World.holding Ybaf.prog os ⟨#[.cells #[.string ⟨#[97, 32, 108, 101, 110, 103, 116, 104, 32, 114, 117, 110, 115, 32, 112, 97, 115, 116, 32, 116, 104, 101, 32, 101, 110, 100, 32, 111, 102, 32, 116, 104, 101, 32, 100, 97, 116, 97]⟩] 62], #[], []⟩ with
    heap := (World.holding Ybaf.prog os ⟨#[.cells #[.string ⟨#[97, 32, 108, 101, 110, 103, 116, 104, 32, 114, 117, 110, 115, 32, 112, 97, 115, 116, 32, 116, 104, 101, 32, 101, 110, 100, 32, 111, 102, 32, 116, 104, 101, 32, 100, 97, 116, 97]⟩] 62], #[], []⟩).heap.modify 0 fun
      | .cells _ t frozen => .cells #[.iface 60 (.pointer (some ⟨(World.holding Ybaf.prog default ⟨#[], #[], []⟩).heap.size, 0, none⟩))] t frozen
      | o => o }) #[.slice none 0 0, .int .u8 0, .int .u8 0, .int .u8 0, .int .u8 0, .slice none 0 0, .slice none 0 0] rfl (by kernel_rfl) (by kernel_rfl) (by kernel_rfl)
      (OpenSpec.preRow_of_B rfl 8 (by kernel_rfl) (by kernel_rfl) (met os _))) ?_
  intro F W base args ds gs before _ hF hval0 hW _ _ _ hL _
  have hval : ∀ (j : Nat) t v, Ybaf.f4.params[j]? = some t → args[j]? = some v → Value.okWide Ybaf.prog W .any base t v := hval0
  have hW' := hW
  obtain ⟨p, q, hA0, hV, rfl, hfz, hnd⟩ := hW
  have hA : DataW.TrodAll enc Ybaf.prog W 0 (fun _ => true) true Ybaf.f4.params.toList args.toList ds p := hA0
  rw [Ybaf.params4] at hA hval
  obtain ⟨v0, vs0, d0, ds0, p0, q0, hargs, rfl, rfl, h0, r0⟩ := trodAll_cons hA
  obtain ⟨v1, vs1, d1, ds1, p1, q1, rfl, rfl, rfl, h1, r1⟩ := trodAll_cons r0
  obtain ⟨v2, vs2, d2, ds2, p2, q2, rfl, rfl, rfl, h2, r2⟩ := trodAll_cons r1
  obtain ⟨v3, vs3, d3, ds3, p3, q3, rfl, rfl, rfl, h3, r3⟩ := trodAll_cons r2
  obtain ⟨v4, vs4, d4, ds4, p4, q4, rfl, rfl, rfl, h4, r4⟩ := trodAll_cons r3
  obtain ⟨v5, vs5, d5, ds5, p5, q5, rfl, rfl, rfl, h5, r5⟩ := trodAll_cons r4
  obtain ⟨v6, vs6, d6, ds6, p6, q6, rfl, rfl, rfl, h6, r6⟩ := trodAll_cons r5
  obtain ⟨rfl, rfl, rfl⟩ := trodAll_nil r6
  obtain rfl : args = #[v0, v1, v2, v3, v4, v5, v6] := by cases args; simp_all
  have lt0 : ∀ x ∈ p0, x.block < W.heap.size := by obtain ⟨m, hm⟩ := h0; exact DataW.trod_lt m _ _ _ hm
  have lt5 : ∀ x ∈ p5, x.block < W.heap.size := by obtain ⟨m, hm⟩ := h5; exact DataW.trod_lt m _ _ _ hm
  have lt6 : ∀ x ∈ p6, x.block < W.heap.size := by obtain ⟨m, hm⟩ := h6; exact DataW.trod_lt m _ _ _ hm
  have one : ∀ {v : Value} {t e : TypeId}, Ybaf.prog.underlying t = some (.slice e) → Value.okWide Ybaf.prog W .any base t v → v.cells.toList = [v] := by
    intro v t e ht hv
    obtain ⟨a, n, c, rfl⟩ := okWide_slice ht hv
    rfl
  have k0 := h0
  have k5 := h5
  have k6 := h6
  obtain ⟨f0, hf0⟩ := h0
  obtain ⟨f5, hf5⟩ := h5
  obtain ⟨f6, hf6⟩ := h6
  rw [one Ybaf.underlying23 (hval 0 23 v0 rfl rfl)] at hf0
  rw [one Ybaf.underlying22 (hval 5 22 v5 rfl rfl)] at hf5
  rw [one Ybaf.underlying22 (hval 6 22 v6 rfl rfl)] at hf6
  obtain ⟨a, b, o, l, c, ca, cb, co, cl, cc, cf, rfl, C⟩ := certsIn hf0
  obtain ⟨ah, bh, oh, lh, ch, fh, rfl, I, i1, i2⟩ := bytesIn hf5
  obtain ⟨av, bv, ov, lv, cv, fv, rfl, J, j1, j2⟩ := bytesIn hf6
  obtain ⟨a1, rfl, rfl, rfl, w1⟩ := open_int Ybaf.underlying5 (hval 1 5 v1 rfl rfl) h1
  obtain ⟨a2, rfl, rfl, rfl, w2⟩ := open_int Ybaf.underlying5 (hval 2 5 v2 rfl rfl) h2
  obtain ⟨a3, rfl, rfl, rfl, w3⟩ := open_int Ybaf.underlying5 (hval 3 5 v3 rfl rfl) h3
  obtain ⟨a4, rfl, rfl, rfl, w4⟩ := open_int Ybaf.underlying5 (hval 4 5 v4 rfl rfl) h4
  clear hA0 hval0
  refine (walk W a b o l c ca cb co cl cc cf a1 a2 a3 a4 ah bh oh lh ch fh av bv ov lv cv fv (u8_bd w3) C I J ⟨i1, i2⟩ ⟨j1, j2⟩).mono fun e W' ⟨he, bel⟩ => ?_
  subst he
  obtain ⟨g1, rfl⟩ : ∃ g1, gs = [g1] := by
    match gs, hV with
    | [g1], _ => exact ⟨g1, rfl⟩
    | [], h => exact h.elim
    | _ :: _ :: _, h => obtain ⟨_, _, _, _, _, _, _, _, _, _, h, _⟩ := h; exact h.elim
  exact ⟨_, rfl, _, _, _, [], _, _, hW', trodAll_mk1 (shut_bool Ybaf.underlying4 _), (trodAll_cons_mk (Below.trod laidOut (by kernel_rfl) (of_decide_eq_true (by kernel_rfl)) k0 bel lt0) (trodAll_cons_mk (shut_int Ybaf.underlying5 w1) (trodAll_cons_mk (shut_int Ybaf.underlying5 w2) (trodAll_cons_mk (shut_int Ybaf.underlying5 w3) (trodAll_cons_mk (shut_int Ybaf.underlying5 w4) (trodAll_cons_mk (Below.trod laidOut (by kernel_rfl) (of_decide_eq_true (by kernel_rfl)) k5 bel lt5) (trodAll_cons_mk (Below.trod laidOut (by kernel_rfl) (of_decide_eq_true (by kernel_rfl)) k6 bel lt6) trodAll_mk0))))))), Below.trodVars laidOut bel (by kernel_rfl) hV, bel.frame _, fun h => by cases h⟩
end tr4

theorem trip_proved : Rows.LawS1409ARoundTripToldSaid :=
  Claim7.holds_of_told_tied_any_at .later 4 Ybaf.f4 _ _ [] _ _ _ _ _ (by kernel_rfl) rfl rfl rfl tr4.laidOut (by kernel_rfl) rfl ⟨rfl, rfl, rfl, rfl, rfl, rfl, rfl⟩ rfl rfl (by kernel_rfl) (by kernel_rfl) Ybaf.func4 (by kernel_rfl)
    (of_decide_eq_true (by kernel_rfl)) (of_decide_eq_true (by kernel_rfl)) (by kernel_rfl) rfl tr4.stopKnobs.symm (by kernel_rfl)
    (by kernel_rfl) (by kernel_rfl) (by kernel_rfl) (by kernel_rfl) (by kernel_rfl) (by kernel_rfl) (by kernel_rfl) (by kernel_rfl) (by kernel_rfl) rfl (by kernel_rfl) rfl rfl
    rfl rfl
    rfl (by kernel_rfl) (by kernel_rfl) (by kernel_rfl) (by decide) (by kernel_rfl) lawS1409ARoundTrip_row_tie
    (OpenClaim.moreEntering_of (by kernel_rfl) (by kernel_rfl) (by kernel_rfl) (by kernel_rfl) (by kernel_rfl) (by kernel_rfl) (by kernel_rfl) (by kernel_rfl) (by kernel_rfl) (by kernel_rfl))
    ⟨_, WideRow.started_initial, tr4.quiet _⟩
    (fun os started _ H enc _ => tr4.lifted os started H enc)
end Go.Proofs.YbulkacdsFmt
