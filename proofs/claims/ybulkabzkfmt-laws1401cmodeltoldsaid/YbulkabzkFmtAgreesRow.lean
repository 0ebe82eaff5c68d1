/- LawS1401CRaiseAgrees: the row's step. -/
import Derived.Test.YbulkabzkFmtOpen
import Derived.Test.YbulkabzkFmtTie
import Derived.Test.YbulkabzkFmtCards
import Derived.OpenVars
import Derived.Stop.JoinedAt
import Derived.Stop.Texts
import Derived.Stop.JoinedTold
import Derived.Stop.LaidErr
import Derived.SevenTiedAt
set_option linter.unusedVariables false
set_option linter.unusedSimpArgs false
namespace Go.Proofs.YbulkabzkFmt
open Go.ChangeShapes Go.WideShapes Go.ChangeAt Go.RowKit
open Go.Extern.Stop Go.Stop Go.Extern

theorem own : ownKnob Ybaf.prog.godebug = none := by kernel_rfl
theorem laidOut : laidOutB Ybaf.prog = true := by kernel_rfl
theorem stopKnobs : Ybaf.pinned.checked.prog.stopKnobs = [] := by kernel_rfl
theorem quiet (os : Os) : Stop.quiet Ybaf.pinned.checked.prog os := by
  intro k hk
  rw [stopKnobs] at hk
  cases hk
theorem star : "*" ++ "errors.errorString" = "*errors.errorString" := by decide
theorem row78 (u : TypeId) (h : Ybaf.prog.typeName? 3 u = some "*errors.errorString") : u = 78 :=
  typeName_ptr_named (nm := "errors.errorString") (by rw [star]; kernel_rfl) (by kernel_rfl) (by decide) u (by rw [star]; exact h)
theorem cells80 : Ybaf.prog.cellsOf 80 = 1 := by kernel_rfl
theorem cells9 : Ybaf.prog.cellsOf 9 = 1 := by kernel_rfl

/-- The two sentinels' cells, out of what the row lists. -/
theorem varsAt {W : World} (hL : laidMet Ybaf.prog Rows.lawS1401CRaiseAgreesRow.laid W) : ∃ a1 s1 a2, VarsAt W a1 s1 a2 := by
  obtain ⟨a1, s1, hv1, hc1, _, _⟩ := laid_sentinel hL (g := 6) (by kernel_rfl) (by kernel_rfl) Ybaf.underlying32 row78 Ybaf.underlying78 Ybaf.underlying80 rfl rfl Ybaf.underlying9 cells80 cells9
  obtain ⟨a2, s2, hv2, _, _, _⟩ := laid_sentinel hL.tail (g := 7) (by kernel_rfl) (by kernel_rfl) Ybaf.underlying32 row78 Ybaf.underlying78 Ybaf.underlying80 rfl rfl Ybaf.underlying9 cells80 cells9
  exact ⟨a1, s1, a2, by simpa using World.var?_cell (g := 6) (by kernel_rfl) hv1 0, hc1, by simpa using World.var?_cell (g := 7) (by kernel_rfl) hv2 0⟩

set_option maxRecDepth 100000 in
theorem agrees_met (os : Os) (args : Array Value) : laidMet Ybaf.prog Rows.lawS1401CRaiseAgreesRow.laid (World.forCall ({ World.holding Ybaf.prog os ⟨#[.cells #[.string ⟨#[114, 97, 105, 115, 101, 32, 119, 104, 101, 110, 32, 97, 32, 99, 97, 108, 108, 32, 116, 97, 107, 101, 115, 32, 116, 104, 101, 32, 119, 104, 111, 108, 101, 32, 115, 116, 97, 99, 107]⟩] 80, .cells #[.string ⟨#[114, 97, 105, 115, 101, 32, 116, 104, 97, 116, 32, 110, 111, 32, 111, 116, 104, 101, 114, 32, 112, 108, 97, 121, 101, 114, 32, 99, 97, 110, 32, 97, 110, 115, 119, 101, 114]⟩] 80], #[], []⟩ with
    heap := ((World.holding Ybaf.prog os ⟨#[.cells #[.string ⟨#[114, 97, 105, 115, 101, 32, 119, 104, 101, 110, 32, 97, 32, 99, 97, 108, 108, 32, 116, 97, 107, 101, 115, 32, 116, 104, 101, 32, 119, 104, 111, 108, 101, 32, 115, 116, 97, 99, 107]⟩] 80, .cells #[.string ⟨#[114, 97, 105, 115, 101, 32, 116, 104, 97, 116, 32, 110, 111, 32, 111, 116, 104, 101, 114, 32, 112, 108, 97, 121, 101, 114, 32, 99, 97, 110, 32, 97, 110, 115, 119, 101, 114]⟩] 80], #[], []⟩).heap.modify 6 fun
      | .cells _ t frozen => .cells #[.iface 78 (.pointer (some ⟨(World.holding Ybaf.prog default ⟨#[], #[], []⟩).heap.size, 0, none⟩))] t frozen
      | o => o).modify 7 fun
      | .cells _ t frozen => .cells #[.iface 78 (.pointer (some ⟨(World.holding Ybaf.prog default ⟨#[], #[], []⟩).heap.size + 1, 0, none⟩))] t frozen
      | o => o }) (fun _ _ => 0) ⟨#[], args, []⟩).memory :=
  laidMet_of_run (ps := [.cell 6 0, .cell (World.holding Ybaf.prog default ⟨#[], #[], []⟩).heap.size 0, .cell 7 0, .cell ((World.holding Ybaf.prog default ⟨#[], #[], []⟩).heap.size + 1) 0]) 8 (by kernel_rfl) (by kernel_rfl) (by kernel_rfl)

set_option maxRecDepth 100000 in
set_option maxHeartbeats 1600000 in
theorem agrees_lifted (sb : BuildSaid) (os : Os) (started : os.Started) (H : Type) (enc : TypeId × Value → H) :
    ReturnsInTold none {} Ybaf.checked os 6 .any Input.okWide ((OpenSpec.ofChange Rows.lawS1401CRaiseAgreesSpec).preRow enc Ybaf.prog Ybaf.f6 [] false Rows.lawS1401CRaiseAgreesRow.laid) (fun F => ((OpenSpec.ofChange Rows.lawS1401CRaiseAgreesSpec).at F).post enc Ybaf.prog Ybaf.f6 false true false false) (aloneAtReturn Ybaf.prog) nothingAlways := by
  refine returnsInTold_of_row (C := Ybaf.checked) (s := OpenSpec.ofChange Rows.lawS1401CRaiseAgreesSpec) (by kernel_rfl) own started (by kernel_rfl) Ybaf.func6
    (OpenSpec.witness_stopped_at (enc := enc) (C := Ybaf.checked) false ({ World.holding Ybaf.prog os ⟨#[.cells #[.string ⟨#[114, 97, 105, 115, 101, 32, 119, 104, 101, 110, 32, 97, 32, 99, 97, 108, 108, 32, 116, 97, 107, 101, 115, 32, 116, 104, 101, 32, 119, 104, 111, 108, 101, 32, 115, 116, 97, 99, 107]⟩] 80, .cells #[.string ⟨#[114, 97, 105, 115, 101, 32, 116, 104, 97, 116, 32, 110, 111, 32, 111, 116, 104, 101, 114, 32, 112, 108, 97, 121, 101, 114, 32, 99, 97, 110, 32, 97, 110, 115, 119, 101, 114]⟩] 80], #[], []⟩ with
    heap := ((World.holding Ybaf.prog os ⟨#[.cells #[.string ⟨#[114, 97, 105, 115, 101, 32, 119, 104, 101, 110, 32, 97, 32, 99, 97, 108, 108, 32, 116, 97, 107, 101, 115, 32, 116, 104, 101, 32, 119, 104, 111, 108, 101, 32, 115, 116, 97, 99, 107]⟩] 80, .cells #[.string ⟨#[114, 97, 105, 115, 101, 32, 116, 104, 97, 116, 32, 110, 111, 32, 111, 116, 104, 101, 114, 32, 112, 108, 97, 121, 101, 114, 32, 99, 97, 110, 32, 97, 110, 115, 119, 101, 114]⟩] 80], #[], []⟩).heap.modify 6 fun
      | .cells _ t frozen => .cells #[.iface 78 (.pointer (some ⟨(World.holding Ybaf.prog default ⟨#[], #[], []⟩).heap.size, 0, none⟩))] t frozen
      | o => o).modify 7 fun
      | .cells _ t frozen => .cells #[.iface 78 (.pointer (some ⟨(World.holding Ybaf.prog default ⟨#[], #[], []⟩).heap.size + 1, 0, none⟩))] t frozen
      | o => o }) #[.agg #[.int .u8 0, .slice none 0 0, .slice none 0 0, .slice none 0 0, .slice none 0 0, .int .u8 0, .bool false, .slice none 0 0, .int .u8 0, .int .i8 0, .int .u8 0, .int .u8 0, .int .u16 0, .int .u16 0, .bool false]] rfl (by kernel_rfl) (by kernel_rfl) (by kernel_rfl)
      (OpenSpec.preRow_of_B rfl 8 (by kernel_rfl) (by kernel_rfl) (agrees_met os _))) ?_
  intro F W base args ds gs before _ hF hval0 hW _ _ _ hL _
  have hval : ∀ (j : Nat) t v, Ybaf.f6.params[j]? = some t → args[j]? = some v → Value.okWide Ybaf.prog W .any base t v := hval0
  have hW' := hW
  obtain ⟨p, q, hA0, hV, rfl, hfz, hnd⟩ := hW
  have hA : DataW.TrodAll enc Ybaf.prog W 0 (fun _ => true) true Ybaf.f6.params.toList args.toList ds p := hA0
  rw [Ybaf.params6] at hA hval
  obtain ⟨v0, d0, rfl, rfl, h0⟩ := trodAll_one hA
  have lt0 : ∀ x ∈ p, x.block < W.heap.size := by obtain ⟨m, hm⟩ := h0; exact DataW.trod_lt m _ _ _ hm
  obtain ⟨kind, actor, opened, cap, raises, rsize, roundBet, lraise, useOp, ff, b1, o1, b2, o2, b3, o3, b4, o4, b5, o5, a1, a2, a3, a4, a5, l1, c1, l2, c2, l3, c3, l4, c4, l5, c5, f1, f2, f3, f5, f4, rfl, I⟩ := open50 (hval 0 50 v0 rfl rfl) h0
  obtain ⟨x1, s1, x2, V⟩ := varsAt hL
  clear hA0 hval0
  refine (agrees_any sb F.told W kind actor opened cap raises rsize roundBet lraise useOp ff b1 o1 b2 o2 b3 o3 b4 o4 b5 o5 a1 a2 a3 a4 a5 l1 c1 l2 c2 l3 c3 l4 c4 l5 c5 f1 f2 f3 f5 f4 I hF x1 s1 x2 V).mono fun e W' ⟨he, bel⟩ => ?_
  subst he
  obtain ⟨g1, g2, rfl⟩ : ∃ g1 g2, gs = [g1, g2] := by
    match gs, hV with
    | [g1, g2], _ => exact ⟨g1, g2, rfl⟩
    | [], h => exact h.elim
    | [_], h => obtain ⟨_, _, _, _, _, _, _, _, _, _, h, _⟩ := h; exact h.elim
    | _ :: _ :: _ :: _, h => obtain ⟨_, _, _, _, _, _, _, _, _, _, h, _⟩ := h; obtain ⟨_, _, _, _, _, _, _, _, _, _, h, _⟩ := h; exact h.elim
  exact ⟨_, rfl, _, _, _, [], _, _, hW', trodAll_mk1 (shut_bool Ybaf.underlying4 _), trodAll_mk1 (Below.trod laidOut (by kernel_rfl) (of_decide_eq_true (by kernel_rfl)) h0 bel lt0), Below.trodVars laidOut bel (by kernel_rfl) hV, bel.frame _, fun h => by cases h⟩

theorem agrees_of (sb : BuildSaid) : Rows.LawS1401CRaiseAgreesToldSaid :=
  Claim7.holds_of_told_tied_any_at .later 6 Ybaf.f6 _ _ [] _ _ _ _ _ (by kernel_rfl) rfl rfl rfl laidOut (by kernel_rfl) rfl ⟨rfl, rfl, rfl, rfl, rfl, rfl, rfl⟩ rfl rfl (by kernel_rfl) (by kernel_rfl) Ybaf.func6 (by kernel_rfl)
    (of_decide_eq_true (by kernel_rfl)) (of_decide_eq_true (by kernel_rfl)) (by kernel_rfl) rfl stopKnobs.symm (by kernel_rfl)
    (by kernel_rfl) (by kernel_rfl) (by kernel_rfl) (by kernel_rfl) (by kernel_rfl) (by kernel_rfl) (by kernel_rfl) (by kernel_rfl) (by kernel_rfl) rfl (by kernel_rfl) rfl rfl
    rfl rfl
    rfl (by kernel_rfl) (by kernel_rfl) (by kernel_rfl) (by decide) (by kernel_rfl) lawS1401CRaiseAgrees_row_tie
    (OpenClaim.moreEntering_of (by kernel_rfl) (by kernel_rfl) (by kernel_rfl) (by kernel_rfl) (by kernel_rfl) (by kernel_rfl) (by kernel_rfl) (by kernel_rfl) (by kernel_rfl) (by kernel_rfl))
    ⟨_, WideRow.started_initial, quiet _⟩
    (fun os started _ H enc _ => agrees_lifted sb os started H enc)
end Go.Proofs.YbulkabzkFmt
