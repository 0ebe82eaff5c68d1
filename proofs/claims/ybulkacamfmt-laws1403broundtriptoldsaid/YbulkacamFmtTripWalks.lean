/- The walks of LawS1403BRoundTrip. -/
import Derived.Test.YbulkacamFmtExactWalks
import Derived.WalkKit
import Derived.WalkSpells
import Derived.WalkLawsBesides
import Derived.Deep.RegionWith
import Derived.Deep.RegionHeld
import Derived.Lib.SmallJoins
namespace Go.Proofs.YbulkacamFmt
open Go.RowKit Go.Extern.Stop Go.Stop Go.Extern

theorem bcell {W w1 : World} (hb : Below W.heap.size W w1) : (∀ b o, b < W.heap.size → w1.cell? ⟨b, o, none⟩ = W.cell? ⟨b, o, none⟩) ∧ (∀ b o, b < W.heap.size → w1.frozen? ⟨b, o, none⟩ = W.frozen? ⟨b, o, none⟩) :=
  ⟨fun b o h => hb.cell (p := ⟨b, o, none⟩) h, fun b o h => hb.frozen (p := ⟨b, o, none⟩) h⟩

set_option maxHeartbeats 400000 in
theorem bytes_any (code vendor : Int) (m : Bool) (a : Option Addr) (n c : Nat) (w : World) :
    Calls Ybaf.prog 9 #[.agg #[.int .u32 code, .int .u32 vendor, .bool m], .slice a n c] w fun e w' => ∃ fl, e = .returned (.agg #[.int .u32 code, .int .u8 fl, .int .u32 vendor, .slice a n c]) ∧ Below w.heap.size w w' := by
  by_cases hv : vendor = 0
  · have hv' : (vendor != 0) = false := by simp [hv]
    subst hv
    cases m
    all_goals
      go_enter Ybaf.func9, Ybaf.ntmps9
      go_wp2
      refine bodyPost_ret (v := .agg #[.int .u32 code, .int .u8 _, .int .u32 0, .slice a n c]) (by simp [results, Ybaf.results9, go_sem]; rfl) rfl ⟨_, rfl, ?_⟩
      exact (((Below.refl _ w).alloc (Nat.le_refl _) _).alloc (by simp) _).alloc (by simp; omega) _
  · have hv' : (vendor != 0) = true := by simp [hv]
    clear hv
    cases m
    all_goals
      go_enter Ybaf.func9, Ybaf.ntmps9
      go_wp2
      refine bodyPost_ret (v := .agg #[.int .u32 code, .int .u8 _, .int .u32 vendor, .slice a n c]) (by simp [results, Ybaf.results9, go_sem]; rfl) rfl ⟨_, rfl, ?_⟩
      exact (((Below.refl _ w).alloc (Nat.le_refl _) _).alloc (by simp) _).alloc (by simp; omega) _

theorem far4 (w : World) (b g j : Nat) (x0 x1 x2 x3 : Value) (h : b ≠ g) :
    ((((w.setCell ⟨b, 0, none⟩ x0).setCell ⟨b, 1, none⟩ x1).setCell ⟨b, 2, none⟩ x2).setCell ⟨b, 3, none⟩ x3).cell? ⟨g, j, none⟩ = w.cell? ⟨g, j, none⟩ := by
  rw [World.cell?_setCell_far _ ⟨b, 3, none⟩ ⟨g, j, none⟩ _ h, World.cell?_setCell_far _ ⟨b, 2, none⟩ ⟨g, j, none⟩ _ h, World.cell?_setCell_far _ ⟨b, 1, none⟩ ⟨g, j, none⟩ _ h, World.cell?_setCell_far _ ⟨b, 0, none⟩ ⟨g, j, none⟩ _ h]

theorem app_u32 (v : Nat) (hv : v < 4294967296) (w : World) :
    Calls Ybaf.prog 10 #[.agg #[], .slice none 0 0, .int .u32 v] w fun e w' => ∃ g cap, e = .returned (.slice (some ⟨g, 0, none⟩) 4 cap) ∧ w.heap.size ≤ g ∧ (∀ j u, (Lib.byteCells (Lib.beBytes 4 v))[j]? = some u → w'.cell? ⟨g, j, none⟩ = some u) ∧ Below w.heap.size w w' := by
  refine (Ybaf.binary_BE_AppendUint32 w.heap.size 0 v hv (.slice none 0 0) [] w (World.ownsRow_nil _ _ _ _) (Nat.le_refl _) (by omega)).mono ?_
  rintro e w' ⟨v', rfl, ho, hb⟩
  obtain ⟨g, cap, rfl⟩ := Joins.ownsRow_form ho (by omega)
  refine ⟨g, cap, rfl, (ho.lt g rfl).1, fun j u hj => ?_, hb⟩
  have := ho.cells rfl j u (by simpa using hj)
  rw [Go.WideShapes.add_plain] at this
  simpa using this

set_option maxHeartbeats 400000 in
theorem def_u32 (code vendor : Int) (m : Bool) (v : Nat) (hv : v < 4294967296) (w : World) :
    Calls Ybaf.prog 6 #[.agg #[.int .u32 code, .int .u32 vendor, .bool m], .int .u32 v] w fun e w' => ∃ fl g cap, e = .returned (.agg #[.int .u32 code, .int .u8 fl, .int .u32 vendor, .slice (some ⟨g, 0, none⟩) 4 cap]) ∧ (∀ j u, (Lib.byteCells (Lib.beBytes 4 v))[j]? = some u → w'.cell? ⟨g, j, none⟩ = some u) ∧ Below w.heap.size w w' := by
  go_enter Ybaf.func6, Ybaf.ntmps6
  go_wp2_with fail
  go_region_with (first
    | (go_at_call 10; refine (app_u32 v hv _).mono ?_; rintro e w1 ⟨g, cap, rfl, hg1, hc1, hb1⟩; obtain ⟨hd1, hf1⟩ := bcell hb1; have hz1 : w.heap.size + 1 < w1.heap.size := by (have := hb1.size; simp at this; omega))
    | (go_at_call 9; refine (bytes_any code vendor m _ _ _ _).mono ?_; rintro e w2 ⟨fl, rfl, hb2⟩; obtain ⟨hd2, hf2⟩ := bcell hb2; have hz2 : w.heap.size + 1 < w2.heap.size := by (have := hb2.size; omega)))
  all_goals
    simp at hg1
    have hc2 := fun j u h => cell_later hb2 (hc1 j u h)
    have hbb : Below w.heap.size w w2 := ((((Below.refl _ w).alloc (Nat.le_refl _) _).alloc (by simp) _).drew.trans (hb1.mono (by simp; omega))).trans (hb2.mono (by omega))
    go_wp2
    refine bodyPost_ret (v := .agg #[.int .u32 code, .int .u8 fl, .int .u32 vendor, .slice (some ⟨g, 0, none⟩) 4 cap]) (by simp [results, Ybaf.results6, go_sem, hd1, hd2, hz1]) rfl ⟨fl, g, cap, rfl, fun j u h => ?_, ?_⟩
    · exact (far4 w2 (w.heap.size + 1) g j _ _ _ _ (by omega)).trans (hc2 j u h)
    · exact (((hbb.setCell (by simp) _).setCell (by simp) _).setCell (by simp) _).setCell (by simp) _
end Go.Proofs.YbulkacamFmt
