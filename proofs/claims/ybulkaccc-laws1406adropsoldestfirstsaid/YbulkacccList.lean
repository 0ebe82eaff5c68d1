/- The list's insert and remove by their contracts. -/
import Derived.Test.YbulkacccBase
set_option linter.unusedVariables false
set_option linter.unusedSimpArgs false
namespace Go.Proofs.Ybulkaccc
open Go.RowKit

set_option maxHeartbeats 1600000 in
theorem insert_first (w : World) (L E : Nat) (v : Value) (hL : At w L #[.pointer (some ⟨L, 0, none⟩), .pointer (some ⟨L, 0, none⟩), .pointer none, .nilIface, .int .i64 0] 82)
    (hE : At w E #[.pointer none, .pointer none, .pointer none, v] 79) :
    Calls Yba.prog 14 #[.pointer (some ⟨L, 0, none⟩), .pointer (some ⟨E, 0, none⟩), .pointer (some ⟨L, 0, none⟩)] w fun e w' => e = .returned (.pointer (some ⟨E, 0, none⟩)) ∧
      At w' L #[.pointer (some ⟨E, 0, none⟩), .pointer (some ⟨E, 0, none⟩), .pointer none, .nilIface, .int .i64 1] 82 ∧
      At w' E #[.pointer (some ⟨L, 0, none⟩), .pointer (some ⟨L, 0, none⟩), .pointer (some ⟨L, 0, none⟩), v] 79 ∧ Only [L, E] w w' := by
  have ne := hL.ne hE (by decide)
  have ne' : E ≠ L := fun e => ne e.symm
  have z0 := hL.loose 0
  have z1 := hL.loose 1
  have z4 := hL.loose 4
  have c0 := hL.cell 0 _ rfl
  have c1 := hL.cell 1 _ rfl
  have c4 := hL.cell 4 _ rfl
  have y0 := hE.loose 0
  have y1 := hE.loose 1
  have y2 := hE.loose 2
  have d0 := hE.cell 0 _ rfl
  have d1 := hE.cell 1 _ rfl
  have d2 := hE.cell 2 _ rfl
  have HL := hid hL
  have HE := hid hE
  clear hL hE
  go_enter Yba.func14, Yba.ntmps14
  go_wp2
  go_ret
  refine ⟨rfl, ?_, ?_, ?_⟩
  · have h := HL.out
    simp only [At] at h ⊢
    simp only [get_same, get_drew, get_other _ _ _ _ _ ne, get_other _ _ _ _ _ ne', h, Option.map_some]
    rfl
  · have h := HE.out
    simp only [At] at h ⊢
    simp only [get_same, get_drew, get_other _ _ _ _ _ ne, get_other _ _ _ _ _ ne', h, Option.map_some]
    rfl
  · repeat (first | with_reducible refine Only.setCell ?_ _ (by simp only [List.mem_cons, true_or, or_true]) _ | with_reducible refine Only.drew ?_)
    exact Only.refl _ _

set_option maxHeartbeats 1600000 in
theorem insert_more (w : World) (L E A : Nat) (v u : Value) (n : Int) (f : Value) (pa : Value) (hn : 0 ≤ n) (hn' : n < 2000) (hL : At w L #[f, .pointer (some ⟨A, 0, none⟩), .pointer none, .nilIface, .int .i64 n] 82)
    (hA : At w A #[.pointer (some ⟨L, 0, none⟩), pa, .pointer (some ⟨L, 0, none⟩), u] 79) (hE : At w E #[.pointer none, .pointer none, .pointer none, v] 79) (nAE : A ≠ E) :
    Calls Yba.prog 14 #[.pointer (some ⟨L, 0, none⟩), .pointer (some ⟨E, 0, none⟩), .pointer (some ⟨A, 0, none⟩)] w fun e w' => e = .returned (.pointer (some ⟨E, 0, none⟩)) ∧
      At w' L #[f, .pointer (some ⟨E, 0, none⟩), .pointer none, .nilIface, .int .i64 (n + 1)] 82 ∧
      At w' A #[.pointer (some ⟨E, 0, none⟩), pa, .pointer (some ⟨L, 0, none⟩), u] 79 ∧
      At w' E #[.pointer (some ⟨L, 0, none⟩), .pointer (some ⟨A, 0, none⟩), .pointer (some ⟨L, 0, none⟩), v] 79 ∧ Only [L, A, E] w w' := by
  have ne := hL.ne hE (by decide)
  have ne' : E ≠ L := fun e => ne e.symm
  have nLA := hL.ne hA (by decide)
  have nAL : A ≠ L := fun e => nLA e.symm
  have nEA : E ≠ A := fun e => nAE e.symm
  have z1 := hL.loose 1
  have z4 := hL.loose 4
  have c1 := hL.cell 1 _ rfl
  have c4 := hL.cell 4 _ rfl
  have x0 := hA.loose 0
  have e0 := hA.cell 0 _ rfl
  have y0 := hE.loose 0
  have y1 := hE.loose 1
  have y2 := hE.loose 2
  have d0 := hE.cell 0 _ rfl
  have d1 := hE.cell 1 _ rfl
  have d2 := hE.cell 2 _ rfl
  have HL := hid hL
  have HE := hid hE
  have HA := hid hA
  clear hL hE hA
  go_enter Yba.func14, Yba.ntmps14
  go_wp2
  go_ret
  refine ⟨rfl, ?_, ?_, ?_, ?_⟩
  · have h := HL.out
    simp only [At] at h ⊢
    simp only [get_same, get_drew, get_other _ _ _ _ _ ne, get_other _ _ _ _ _ ne', get_other _ _ _ _ _ nLA, get_other _ _ _ _ _ nAL, get_other _ _ _ _ _ nAE, get_other _ _ _ _ _ nEA, h, Option.map_some]
    rfl
  · have h := HA.out
    simp only [At] at h ⊢
    simp only [get_same, get_drew, get_other _ _ _ _ _ ne, get_other _ _ _ _ _ ne', get_other _ _ _ _ _ nLA, get_other _ _ _ _ _ nAL, get_other _ _ _ _ _ nAE, get_other _ _ _ _ _ nEA, h, Option.map_some]
    rfl
  · have h := HE.out
    simp only [At] at h ⊢
    simp only [get_same, get_drew, get_other _ _ _ _ _ ne, get_other _ _ _ _ _ ne', get_other _ _ _ _ _ nLA, get_other _ _ _ _ _ nAL, get_other _ _ _ _ _ nAE, get_other _ _ _ _ _ nEA, h, Option.map_some]
    rfl
  · repeat (first | with_reducible refine Only.setCell ?_ _ (by simp only [List.mem_cons, true_or, or_true]) _ | with_reducible refine Only.drew ?_)
    exact Only.refl _ _

set_option maxHeartbeats 1600000 in
theorem remove_last (w : World) (L E : Nat) (v : Value) (hL : At w L #[.pointer (some ⟨E, 0, none⟩), .pointer (some ⟨E, 0, none⟩), .pointer none, .nilIface, .int .i64 1] 82)
    (hE : At w E #[.pointer (some ⟨L, 0, none⟩), .pointer (some ⟨L, 0, none⟩), .pointer (some ⟨L, 0, none⟩), v] 79) :
    Calls Yba.prog 17 #[.pointer (some ⟨L, 0, none⟩), .pointer (some ⟨E, 0, none⟩)] w fun e w' => e = .returned (.tuple #[]) ∧
      At w' L #[.pointer (some ⟨L, 0, none⟩), .pointer (some ⟨L, 0, none⟩), .pointer none, .nilIface, .int .i64 0] 82 ∧
      At w' E #[.pointer none, .pointer none, .pointer none, v] 79 ∧ Only [L, E] w w' := by
  have ne := hL.ne hE (by decide)
  have ne' : E ≠ L := fun e => ne e.symm
  have z0 := hL.loose 0
  have z1 := hL.loose 1
  have z4 := hL.loose 4
  have c0 := hL.cell 0 _ rfl
  have c1 := hL.cell 1 _ rfl
  have c4 := hL.cell 4 _ rfl
  have y0 := hE.loose 0
  have y1 := hE.loose 1
  have y2 := hE.loose 2
  have d0 := hE.cell 0 _ rfl
  have d1 := hE.cell 1 _ rfl
  have d2 := hE.cell 2 _ rfl
  have HL := hid hL
  have HE := hid hE
  clear hL hE
  go_enter Yba.func17, Yba.ntmps17
  go_wp2
  go_region
  all_goals go_wp2
  all_goals go_region
  all_goals go_wp2
  all_goals go_end0
  all_goals
    refine ⟨rfl, ?_, ?_, ?_⟩
    · have h := HL.out
      simp only [At] at h ⊢
      simp only [get_same, get_drew, get_other _ _ _ _ _ ne, get_other _ _ _ _ _ ne', h, Option.map_some]
      rfl
    · have h := HE.out
      simp only [At] at h ⊢
      simp only [get_same, get_drew, get_other _ _ _ _ _ ne, get_other _ _ _ _ _ ne', h, Option.map_some]
      rfl
    · repeat (first | with_reducible refine Only.setCell ?_ _ (by simp only [List.mem_cons, true_or, or_true]) _ | with_reducible refine Only.drew ?_)
      exact Only.refl _ _

set_option maxHeartbeats 1600000 in
theorem remove_more (w : World) (L E N : Nat) (v u : Value) (n : Int) (pl nn : Value) (hn : 1 ≤ n) (hn' : n < 2000) (hL : At w L #[.pointer (some ⟨E, 0, none⟩), pl, .pointer none, .nilIface, .int .i64 n] 82)
    (hE : At w E #[.pointer (some ⟨N, 0, none⟩), .pointer (some ⟨L, 0, none⟩), .pointer (some ⟨L, 0, none⟩), v] 79) (hN : At w N #[nn, .pointer (some ⟨E, 0, none⟩), .pointer (some ⟨L, 0, none⟩), u] 79) (nEN : E ≠ N) :
    Calls Yba.prog 17 #[.pointer (some ⟨L, 0, none⟩), .pointer (some ⟨E, 0, none⟩)] w fun e w' => e = .returned (.tuple #[]) ∧
      At w' L #[.pointer (some ⟨N, 0, none⟩), pl, .pointer none, .nilIface, .int .i64 (n - 1)] 82 ∧
      At w' E #[.pointer none, .pointer none, .pointer none, v] 79 ∧ At w' N #[nn, .pointer (some ⟨L, 0, none⟩), .pointer (some ⟨L, 0, none⟩), u] 79 ∧ Only [L, E, N] w w' := by
  have ne := hL.ne hE (by decide)
  have ne' : E ≠ L := fun e => ne e.symm
  have nLN := hL.ne hN (by decide)
  have nNL : N ≠ L := fun e => nLN e.symm
  have nNE : N ≠ E := fun e => nEN e.symm
  have z0 := hL.loose 0
  have z4 := hL.loose 4
  have c0 := hL.cell 0 _ rfl
  have c4 := hL.cell 4 _ rfl
  have y0 := hE.loose 0
  have y1 := hE.loose 1
  have y2 := hE.loose 2
  have d0 := hE.cell 0 _ rfl
  have d1 := hE.cell 1 _ rfl
  have d2 := hE.cell 2 _ rfl
  have x1 := hN.loose 1
  have e1 := hN.cell 1 _ rfl
  have HL := hid hL
  have HE := hid hE
  have HN := hid hN
  clear hL hE hN
  go_enter Yba.func17, Yba.ntmps17
  go_wp2
  go_region
  all_goals go_wp2
  all_goals go_region
  all_goals go_wp2
  all_goals go_end0
  all_goals
    refine ⟨rfl, ?_, ?_, ?_, ?_⟩
    · have h := HL.out
      simp only [At] at h ⊢
      simp only [get_same, get_drew, get_other _ _ _ _ _ ne, get_other _ _ _ _ _ ne', get_other _ _ _ _ _ nLN, get_other _ _ _ _ _ nNL, get_other _ _ _ _ _ nNE, get_other _ _ _ _ _ nEN, h, Option.map_some]
      rfl
    · have h := HE.out
      simp only [At] at h ⊢
      simp only [get_same, get_drew, get_other _ _ _ _ _ ne, get_other _ _ _ _ _ ne', get_other _ _ _ _ _ nLN, get_other _ _ _ _ _ nNL, get_other _ _ _ _ _ nNE, get_other _ _ _ _ _ nEN, h, Option.map_some]
      rfl
    · have h := HN.out
      simp only [At] at h ⊢
      simp only [get_same, get_drew, get_other _ _ _ _ _ ne, get_other _ _ _ _ _ ne', get_other _ _ _ _ _ nLN, get_other _ _ _ _ _ nNL, get_other _ _ _ _ _ nNE, get_other _ _ _ _ _ nEN, h, Option.map_some]
      rfl
    · repeat (first | with_reducible refine Only.setCell ?_ _ (by simp only [List.mem_cons, true_or, or_true]) _ | with_reducible refine Only.drew ?_)
      exact Only.refl _ _
end Go.Proofs.Ybulkaccc
