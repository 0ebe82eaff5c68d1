/- LawS1409BFrame: the row's step and the told card. -/
import Derived.Test.YbulkacdsFmtCards
import Derived.Test.YbulkacdsFmtFrameD
import Derived.ProofKit
import Derived.OpenShut
import Derived.ChangeOld
import Derived.Below
import Derived.Stop.JoinedAt
import Derived.Stop.Texts
import Derived.Stop.JoinedTold
import Derived.SevenToldRow
set_option linter.unusedVariables false
set_option linter.unusedSimpArgs false
namespace Go.Proofs.YbulkacdsFmt
open Go.ChangeShapes Go.WideShapes Go.ChangeAt Go.RowKit
open Go.Extern.Stop Go.Stop Go.Extern

namespace fr5
theorem own : ownKnob Ybaf.prog.godebug = none := by kernel_rfl
theorem laidOut : laidOutB Ybaf.prog = true := by kernel_rfl
theorem stops : Ybaf.pinned.checked.prog.stops = ["fmt.errorf"] := by kernel_rfl
theorem stopKnobs : Ybaf.pinned.checked.prog.stopKnobs = [] := by kernel_rfl
theorem quiet (os : Os) : Stop.quiet Ybaf.pinned.checked.prog os := by
  intro k hk
  rw [stopKnobs] at hk
  cases hk

/-- A slice of integers that came in: nil, or a row of 'cap' numbers. -/
def IsRow (k : IntKind) (w : World) (a : Option Addr) (len cap : Nat) (zs : List Int) : Prop :=
  (a = none ∧ len = 0 ∧ cap = 0 ∧ zs = []) ∨
  ∃ x, a = some x ∧ len ≤ cap ∧ cap ≤ maxLen ∧ zs.length = cap ∧ (∀ i, i < zs.length → w.cell? (x.add i) = some (.int k (zs.getD i 0))) ∧ ∀ n ∈ zs, (Lit.int k n).wf = true

theorem u8_bd {z : Int} (h : (Lit.int .u8 z).wf = true) : 0 ≤ z ∧ z ≤ 255 := by
  simp [Lit.wf, IntKind.min, IntKind.max, IntKind.signed, IntKind.bits] at h
  omega

theorem view {w : World} {a : Option Addr} {len cap : Nat} {zs : List Int} (h : IsRow .u8 w a len cap zs) : ∃ b o f, Bytes w a b o len f ∧ (a = none → cap = 0) ∧ ∀ i, i < len → b < w.heap.size := by
  rcases h with ⟨rfl, rfl, rfl, _⟩ | ⟨x, rfl, hl, hm, hz, hc, hw⟩
  · exact ⟨0, 0, fun _ => 0, fun i hi => absurd hi (Nat.not_lt_zero _), fun _ => rfl, fun i hi => absurd hi (Nat.not_lt_zero _)⟩
  · rcases Nat.eq_zero_or_pos len with rfl | h0
    · exact ⟨0, 0, fun _ => 0, fun i hi => absurd hi (Nat.not_lt_zero _), (fun h => by cases h), fun i hi => absurd hi (Nat.not_lt_zero _)⟩
    · obtain ⟨g, o, rfl, _⟩ := ints_at hc (by omega)
      refine ⟨g, o, fun i => zs.getD i 0, fun i hi => ?_, (fun h => by cases h), fun i hi => ?_⟩
      · have hi' : i < zs.length := by omega
        have h1 := hc i hi'
        rw [add_plain] at h1
        refine ⟨rfl, h1, ?_⟩
        have hmem : zs.getD i 0 ∈ zs := by
          rw [List.getD_eq_getElem?_getD, List.getElem?_eq_getElem hi']
          exact List.getElem_mem hi'
        exact u8_bd (hw _ hmem)
      · have h1 := hc 0 (by omega)
        rw [add_plain] at h1
        exact World.block_lt_of_cell? _ _ h1

theorem walk (F : Interp) (w : World) (a1 : Option Addr) (l1 c1 : Nat) (a2 : Option Addr) (l2 c2 : Nat) (sel rep : Int) (hasErr : Bool) (z1 z2 : List Int) (hF : F.answers w.tape) (r1 : IsRow .u8 w a1 l1 c1 z1) (r2 : IsRow .u8 w a2 l2 c2 z2)
    (hs : 0 ≤ sel ∧ sel ≤ 255) (hr : 0 ≤ rep ∧ rep ≤ 255) :
    Calls Ybaf.prog 5 #[.slice a1 l1 c1, .slice a2 l2 c2, .int .u8 sel, .int .u8 rep, .bool hasErr] w fun e w' => e = .returned (.bool true) ∧ Below w.heap.size w w' := by
  by_cases h1 : 1024 < (l1 : Int)
  · exact frame_long1 w a1 l1 c1 _ sel rep hasErr h1 l2 c2 a2 rfl
  · by_cases h2 : 1024 < (l2 : Int)
    · exact frame_long2 w a1 l1 c1 sel rep hasErr (by omega) l2 c2 a2 h2
    · obtain ⟨b1, o1, f1, B1, n1, t1⟩ := view r1
      obtain ⟨b2, o2, f2, B2, n2, t2⟩ := view r2
      obtain ⟨hs0, hs1⟩ := hs
      obtain ⟨hr0, hr1⟩ := hr
      have e1 : sel % 9 = ((sel % 9).toNat : Int) := by omega
      have e2 : rep % 8 + 1 = ((rep % 8 + 1).toNat : Int) := by omega
      exact (frmA F w a1 b1 o1 l1 c1 f1 a2 b2 o2 l2 c2 f2 sel rep hasErr _ _ hF (by omega) (by omega) hs0 hs1 hr0 hr1 e1 e2 B1 B2 n1 n2 t1 t2).2
        ⟨(frmB F w a1 b1 o1 l1 c1 f1 a2 b2 o2 l2 c2 f2 sel rep hasErr _ _ hF (by omega) (by omega) hs0 hs1 hr0 hr1 e1 e2 B1 B2 n1 n2 t1 t2).2
          ⟨(frmC F w a1 b1 o1 l1 c1 f1 a2 b2 o2 l2 c2 f2 sel rep hasErr _ _ hF (by omega) (by omega) hs0 hs1 hr0 hr1 e1 e2 B1 B2 n1 n2 t1 t2).2
            ⟨frmD F w a1 b1 o1 l1 c1 f1 a2 b2 o2 l2 c2 f2 sel rep hasErr _ _ hF (by omega) (by omega) hs0 hs1 hr0 hr1 e1 e2 B1 B2 n1 n2 t1 t2⟩⟩⟩

set_option maxRecDepth 100000 in
theorem lifted (os : Os) (started : os.Started) (H : Type) (enc : TypeId × Value → H) :
    ReturnsInTold none {} Ybaf.checked os 5 .any Input.okWide ((OpenSpec.ofChange Rows.lawS1409BFrameSpec).preRow enc Ybaf.prog Ybaf.f5 [] false []) (fun F => ((OpenSpec.ofChange Rows.lawS1409BFrameSpec).at F).post enc Ybaf.prog Ybaf.f5 false true false false) (aloneAtReturn Ybaf.prog) nothingAlways := by
  refine returnsInTold_of_row (C := Ybaf.checked) (s := OpenSpec.ofChange Rows.lawS1409BFrameSpec) (by kernel_rfl) own started (by kernel_rfl) Ybaf.func5
    (OpenSpec.witness_stopped (enc := enc) (C := Ybaf.checked) false ⟨#[], #[.slice none 0 0, .slice none 0 0, .int .u8 0, .int .u8 0, .bool false], []⟩ 8 (by kernel_rfl) (by kernel_rfl) (by kernel_rfl) (by kernel_rfl)) ?_
  intro F W base args ds gs before _ hF hval0 hW _ _ _ _ _
  have hval : ∀ (j : Nat) t v, Ybaf.f5.params[j]? = some t → args[j]? = some v → Value.okWide Ybaf.prog W .any base t v := hval0
  have hW' := hW
  obtain ⟨p, q, hA0, hV, rfl, hfz, hnd⟩ := hW
  have hA : DataW.TrodAll enc Ybaf.prog W 0 (fun _ => true) true Ybaf.f5.params.toList args.toList ds p := hA0
  rw [Ybaf.params5] at hA hval
  obtain ⟨v0, vs0, d0, ds0, p0, q0, hargs, rfl, rfl, h0, r0⟩ := trodAll_cons hA
  obtain ⟨v1, vs1, d1, ds1, p1, q1, rfl, rfl, rfl, h1, r1⟩ := trodAll_cons r0
  obtain ⟨v2, vs2, d2, ds2, p2, q2, rfl, rfl, rfl, h2, r2⟩ := trodAll_cons r1
  obtain ⟨v3, vs3, d3, ds3, p3, q3, rfl, rfl, rfl, h3, r3⟩ := trodAll_cons r2
  obtain ⟨v4, vs4, d4, ds4, p4, q4, rfl, rfl, rfl, h4, r4⟩ := trodAll_cons r3
  obtain ⟨rfl, rfl, rfl⟩ := trodAll_nil r4
  obtain rfl : args = #[v0, v1, v2, v3, v4] := by cases args; simp_all
  obtain ⟨rfl, rfl⟩ := trodVars_none hV
  have rowOf : ∀ {v : Value} {d : DataW H} {pp : List MemPlace}, Value.okWide Ybaf.prog W .any base 22 v → DataW.Trod enc Ybaf.prog W 0 (fun _ => true) true 22 v d pp → ∃ a len cap zs, v = .slice a len cap ∧ IsRow .u8 W a len cap zs := by
    intro v d pp hv h
    obtain ⟨a, len, cap, rfl⟩ := okWide_slice Ybaf.underlying22 hv
    obtain ⟨fuel, hf⟩ := h
    rcases open_ints Ybaf.underlying22 Ybaf.underlying5 (by kernel_rfl) hf with ⟨hcs, _⟩ | ⟨x, l, c, zs, hcs, _, hl, hm, hz, _, hcell, hwz⟩
    · simp [Value.cells] at hcs
      obtain ⟨rfl, rfl, rfl⟩ := hcs
      exact ⟨_, _, _, [], rfl, .inl ⟨rfl, rfl, rfl, rfl⟩⟩
    · simp [Value.cells] at hcs
      obtain ⟨rfl, rfl, rfl⟩ := hcs
      exact ⟨_, _, _, zs, rfl, .inr ⟨_, rfl, hl, hm, by simpa using hz, hcell, hwz⟩⟩
  have lt0 : ∀ x ∈ p0, x.block < W.heap.size := by obtain ⟨m, hm⟩ := h0; exact DataW.trod_lt m _ _ _ hm
  have lt1 : ∀ x ∈ p1, x.block < W.heap.size := by obtain ⟨m, hm⟩ := h1; exact DataW.trod_lt m _ _ _ hm
  obtain ⟨a0, len0, cap0, z0, rfl, w0⟩ := rowOf (hval 0 22 v0 rfl rfl) h0
  obtain ⟨a1, len1, cap1, z1, rfl, w1⟩ := rowOf (hval 1 22 v1 rfl rfl) h1
  obtain ⟨a2, rfl, rfl, rfl, w2⟩ := open_int Ybaf.underlying5 (hval 2 5 v2 rfl rfl) h2
  obtain ⟨a3, rfl, rfl, rfl, w3⟩ := open_int Ybaf.underlying5 (hval 3 5 v3 rfl rfl) h3
  obtain ⟨a4, rfl, rfl, rfl⟩ := open_bool Ybaf.underlying4 (hval 4 4 v4 rfl rfl) h4
  clear hA0 hval0 rowOf
  refine (walk F.told W a0 len0 cap0 a1 len1 cap1 a2 a3 a4 z0 z1 hF w0 w1 (u8_bd w2) (u8_bd w3)).mono fun e W' ⟨he, bel⟩ => ?_
  subst he
  exact ⟨_, rfl, _, _, _, [], _, [], hW', trodAll_mk1 (shut_bool Ybaf.underlying4 _), (trodAll_cons_mk (Below.trod laidOut (by kernel_rfl) (of_decide_eq_true (by kernel_rfl)) h0 bel lt0) (trodAll_cons_mk (Below.trod laidOut (by kernel_rfl) (of_decide_eq_true (by kernel_rfl)) h1 bel lt1) (trodAll_cons_mk (shut_int Ybaf.underlying5 w2) (trodAll_cons_mk (shut_int Ybaf.underlying5 w3) (trodAll_cons_mk (shut_bool Ybaf.underlying4 a4) trodAll_mk0))))), rfl, bel.frame _, fun h => by cases h⟩
end fr5

theorem frame_proved : Rows.LawS1409BFrameToldSaid :=
  Claim7.holds_of_told_any 5 Ybaf.f5 "fmt.errorf" [] [] _ _ _ (by kernel_rfl) rfl rfl rfl fr5.laidOut (by kernel_rfl) rfl ⟨rfl, rfl, rfl, rfl, rfl, rfl, rfl⟩ rfl rfl (by kernel_rfl) (by kernel_rfl) Ybaf.func5 (by kernel_rfl)
    (of_decide_eq_true (by kernel_rfl)) (of_decide_eq_true (by kernel_rfl)) fr5.stops.symm rfl fr5.stopKnobs.symm (by kernel_rfl)
    (by kernel_rfl) (by kernel_rfl) (by kernel_rfl) (by kernel_rfl) (by kernel_rfl) (by kernel_rfl) (by kernel_rfl) (by kernel_rfl) (by kernel_rfl) rfl (by kernel_rfl) rfl rfl
    rfl rfl
    rfl (by kernel_rfl) (by kernel_rfl) (by kernel_rfl) (by decide) (by kernel_rfl)
    (OpenClaim.moreEntering_of (by kernel_rfl) (by kernel_rfl) (by kernel_rfl) (by kernel_rfl) (by kernel_rfl) (by kernel_rfl) (by kernel_rfl) (by kernel_rfl) (by kernel_rfl) (by kernel_rfl))
    ⟨_, WideRow.started_initial, fr5.quiet _⟩
    (fun os started _ H enc _ => fr5.lifted os started H enc)
end Go.Proofs.YbulkacdsFmt
