/- LawS1401CModel: the row's step, and the last. -/
import Derived.Test.YbulkabzkFmtAgreesRow
import Derived.Test.YbulkabzkFmtBuild
import Derived.Test.YbulkabzkFmtMAll
set_option linter.unusedVariables false
set_option linter.unusedSimpArgs false
namespace Go.Proofs.YbulkabzkFmt
open Go.ChangeShapes Go.WideShapes Go.ChangeAt Go.RowKit
open Go.Extern.Stop Go.Stop Go.Extern

/-- The two sentinels' cells, out of what the row lists. -/
theorem varsAtM {W : World} (hL : laidMet Ybaf.prog Rows.lawS1401CModelRow.laid W) : ∃ a1 s1 a2, VarsAt W a1 s1 a2 := by
  obtain ⟨a1, s1, hv1, hc1, _, _⟩ := laid_sentinel hL (g := 6) (by kernel_rfl) (by kernel_rfl) Ybaf.underlying32 row78 Ybaf.underlying78 Ybaf.underlying80 rfl rfl Ybaf.underlying9 cells80 cells9
  obtain ⟨a2, s2, hv2, _, _, _⟩ := laid_sentinel hL.tail (g := 7) (by kernel_rfl) (by kernel_rfl) Ybaf.underlying32 row78 Ybaf.underlying78 Ybaf.underlying80 rfl rfl Ybaf.underlying9 cells80 cells9
  exact ⟨a1, s1, a2, by simpa using World.var?_cell (g := 6) (by kernel_rfl) hv1 0, hc1, by simpa using World.var?_cell (g := 7) (by kernel_rfl) hv2 0⟩

set_option maxRecDepth 100000 in
theorem model_met (os : Os) (args : Array Value) : laidMet Ybaf.prog Rows.lawS1401CModelRow.laid (World.forCall ({ World.holding Ybaf.prog os ⟨#[.cells #[.string ⟨#[114, 97, 105, 115, 101, 32, 119, 104, 101, 110, 32, 97, 32, 99, 97, 108, 108, 32, 116, 97, 107, 101, 115, 32, 116, 104, 101, 32, 119, 104, 111, 108, 101, 32, 115, 116, 97, 99, 107]⟩] 80, .cells #[.string ⟨#[114, 97, 105, 115, 101, 32, 116, 104, 97, 116, 32, 110, 111, 32, 111, 116, 104, 101, 114, 32, 112, 108, 97, 121, 101, 114, 32, 99, 97, 110, 32, 97, 110, 115, 119, 101, 114]⟩] 80], #[], []⟩ with
    heap := ((World.holding Ybaf.prog os ⟨#[.cells #[.string ⟨#[114, 97, 105, 115, 101, 32, 119, 104, 101, 110, 32, 97, 32, 99, 97, 108, 108, 32, 116, 97, 107, 101, 115, 32, 116, 104, 101, 32, 119, 104, 111, 108, 101, 32, 115, 116, 97, 99, 107]⟩] 80, .cells #[.string ⟨#[114, 97, 105, 115, 101, 32, 116, 104, 97, 116, 32, 110, 111, 32, 111, 116, 104, 101, 114, 32, 112, 108, 97, 121, 101, 114, 32, 99, 97, 110, 32, 97, 110, 115, 119, 101, 114]⟩] 80], #[], []⟩).heap.modify 6 fun
      | .cells _ t frozen => .cells #[.iface 78 (.pointer (some ⟨(World.holding Ybaf.prog default ⟨#[], #[], []⟩).heap.size, 0, none⟩))] t frozen
      | o => o).modify 7 fun
      | .cells _ t frozen => .cells #[.iface 78 (.pointer (some ⟨(World.holding Ybaf.prog default ⟨#[], #[], []⟩).heap.size + 1, 0, none⟩))] t frozen
      | o => o }) (fun _ _ => 0) ⟨#[], args, []⟩).memory :=
  laidMet_of_run (ps := [.cell 6 0, .cell (World.holding Ybaf.prog default ⟨#[], #[], []⟩).heap.size 0, .cell 7 0, .cell ((World.holding Ybaf.prog default ⟨#[], #[], []⟩).heap.size + 1) 0]) 8 (by kernel_rfl) (by kernel_rfl) (by kernel_rfl)

set_option maxRecDepth 100000 in
set_option maxHeartbeats 1600000 in
theorem model_lifted (sb : BuildSaid) (os : Os) (started : os.Started) (H : Type) (enc : TypeId × Value → H) :
    ReturnsInTold none {} Ybaf.checked os 5 .any Input.okWide ((OpenSpec.ofChange Rows.lawS1401CModelSpec).preRow enc Ybaf.prog Ybaf.f5 [] false Rows.lawS1401CModelRow.laid) (fun F => ((OpenSpec.ofChange Rows.lawS1401CModelSpec).at F).post enc Ybaf.prog Ybaf.f5 false true false false) (aloneAtReturn Ybaf.prog) nothingAlways := by
  refine returnsInTold_of_row (C := Ybaf.checked) (s := OpenSpec.ofChange Rows.lawS1401CModelSpec) (by kernel_rfl) own started (by kernel_rfl) Ybaf.func5
    (OpenSpec.witness_stopped_at (enc := enc) (C := Ybaf.checked) false ({ World.holding Ybaf.prog os ⟨#[.cells #[.string ⟨#[114, 97, 105, 115, 101, 32, 119, 104, 101, 110, 32, 97, 32, 99, 97, 108, 108, 32, 116, 97, 107, 101, 115, 32, 116, 104, 101, 32, 119, 104, 111, 108, 101, 32, 115, 116, 97, 99, 107]⟩] 80, .cells #[.string ⟨#[114, 97, 105, 115, 101, 32, 116, 104, 97, 116, 32, 110, 111, 32, 111, 116, 104, 101, 114, 32, 112, 108, 97, 121, 101, 114, 32, 99, 97, 110, 32, 97, 110, 115, 119, 101, 114]⟩] 80], #[], []⟩ with
    heap := ((World.holding Ybaf.prog os ⟨#[.cells #[.string ⟨#[114, 97, 105, 115, 101, 32, 119, 104, 101, 110, 32, 97, 32, 99, 97, 108, 108, 32, 116, 97, 107, 101, 115, 32, 116, 104, 101, 32, 119, 104, 111, 108, 101, 32, 115, 116, 97, 99, 107]⟩] 80, .cells #[.string ⟨#[114, 97, 105, 115, 101, 32, 116, 104, 97, 116, 32, 110, 111, 32, 111, 116, 104, 101, 114, 32, 112, 108, 97, 121, 101, 114, 32, 99, 97, 110, 32, 97, 110, 115, 119, 101, 114]⟩] 80], #[], []⟩).heap.modify 6 fun
      | .cells _ t frozen => .cells #[.iface 78 (.pointer (some ⟨(World.holding Ybaf.prog default ⟨#[], #[], []⟩).heap.size, 0, none⟩))] t frozen
      | o => o).modify 7 fun
      | .cells _ t frozen => .cells #[.iface 78 (.pointer (some ⟨(World.holding Ybaf.prog default ⟨#[], #[], []⟩).heap.size + 1, 0, none⟩))] t frozen
      | o => o }) #[.agg #[.int .u8 0, .slice none 0 0, .slice none 0 0, .slice none 0 0, .slice none 0 0, .int .u8 0, .bool false, .slice none 0 0, .int .u8 0, .int .i8 0, .int .u8 0, .int .u8 0, .int .u16 0, .int .u16 0, .bool false]] rfl (by kernel_rfl) (by kernel_rfl) (by kernel_rfl)
      (OpenSpec.preRow_of_B rfl 8 (by kernel_rfl) (by kernel_rfl) (model_met os _))) ?_
  intro F W base args ds gs before _ hF hval0 hW _ _ _ hL _
  have hval : ∀ (j : Nat) t v, Ybaf.f5.params[j]? = some t → args[j]? = some v → Value.okWide Ybaf.prog W .any base t v := hval0
  have hW' := hW
  obtain ⟨p, q, hA0, hV, rfl, hfz, hnd⟩ := hW
  have hA : DataW.TrodAll enc Ybaf.prog W 0 (fun _ => true) true Ybaf.f5.params.toList args.toList ds p := hA0
  rw [Ybaf.params5] at hA hval
  obtain ⟨v0, d0, rfl, rfl, h0⟩ := trodAll_one hA
  have lt0 : ∀ x ∈ p, x.block < W.heap.size := by obtain ⟨m, hm⟩ := h0; exact DataW.trod_lt m _ _ _ hm
  obtain ⟨kind, actor, opened, cap, raises, rsize, roundBet, lraise, useOp, ff, b1, o1, b2, o2, b3, o3, b4, o4, b5, o5, a1, a2, a3, a4, a5, l1, c1, l2, c2, l3, c3, l4, c4, l5, c5, f1, f2, f3, f5, f4, rfl, I⟩ := open50 (hval 0 50 v0 rfl rfl) h0
  obtain ⟨x1, s1, x2, V⟩ := varsAtM hL
  clear hA0 hval0
  refine (model_any sb F.told W kind actor opened cap raises rsize roundBet lraise useOp ff b1 o1 b2 o2 b3 o3 b4 o4 b5 o5 a1 a2 a3 a4 a5 l1 c1 l2 c2 l3 c3 l4 c4 l5 c5 f1 f2 f3 f5 f4 I hF x1 s1 x2 V).mono fun e W' ⟨he, bel⟩ => ?_
  subst he
  obtain ⟨g1, g2, rfl⟩ : ∃ g1 g2, gs = [g1, g2] := by
    match gs, hV with
    | [g1, g2], _ => exact ⟨g1, g2, rfl⟩
    | [], h => exact h.elim
    | [_], h => obtain ⟨_, _, _, _, _, _, _, _, _, _, h, _⟩ := h; exact h.elim
    | _ :: _ :: _ :: _, h => obtain ⟨_, _, _, _, _, _, _, _, _, _, h, _⟩ := h; obtain ⟨_, _, _, _, _, _, _, _, _, _, h, _⟩ := h; exact h.elim
  exact ⟨_, rfl, _, _, _, [], _, _, hW', trodAll_mk1 (shut_bool Ybaf.underlying4 _), trodAll_mk1 (Below.trod laidOut (by kernel_rfl) (of_decide_eq_true (by kernel_rfl)) h0 bel lt0), Below.trodVars laidOut bel (by kernel_rfl) hV, bel.frame _, fun h => by cases h⟩

theorem model_of (sb : BuildSaid) : Rows.LawS1401CModelToldSaid :=
  Claim7.holds_of_told_tied_any_at .later 5 Ybaf.f5 _ _ [] _ _ _ _ _ (by kernel_rfl) rfl rfl rfl laidOut (by kernel_rfl) rfl ⟨rfl, rfl, rfl, rfl, rfl, rfl, rfl⟩ rfl rfl (by kernel_rfl) (by kernel_rfl) Ybaf.func5 (by kernel_rfl)
    (of_decide_eq_true (by kernel_rfl)) (of_decide_eq_true (by kernel_rfl)) (by kernel_rfl) rfl stopKnobs.symm (by kernel_rfl)
    (by kernel_rfl) (by kernel_rfl) (by kernel_rfl) (by kernel_rfl) (by kernel_rfl) (by kernel_rfl) (by kernel_rfl) (by kernel_rfl) (by kernel_rfl) rfl (by kernel_rfl) rfl rfl
    rfl rfl
    rfl (by kernel_rfl) (by kernel_rfl) (by kernel_rfl) (by decide) (by kernel_rfl) lawS1401CModel_row_tie
    (OpenClaim.moreEntering_of (by kernel_rfl) (by kernel_rfl) (by kernel_rfl) (by kernel_rfl) (by kernel_rfl) (by kernel_rfl) (by kernel_rfl) (by kernel_rfl) (by kernel_rfl) (by kernel_rfl))
    ⟨_, WideRow.started_initial, quiet _⟩
    (fun os started _ H enc _ => model_lifted sb os started H enc)

theorem model_proved : Rows.LawS1401CModelToldSaid := model_of build_any

end Go.Proofs.YbulkabzkFmt
