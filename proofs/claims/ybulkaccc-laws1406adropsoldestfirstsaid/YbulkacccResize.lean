/- resizeLocked by its contracts: the share goes on; the share goes. -/
import Derived.Test.YbulkacccMaps
import Derived.Deep.QuietTactic
set_option linter.unusedVariables false
set_option linter.unusedSimpArgs false
namespace Go.Proofs.Ybulkaccc
open Go.RowKit

theorem only_drewN {L : List Nat} {a w : World} (h : Only L a w) (n : Nat) : Only L a (w.drewN n) := by
  induction n with
  | zero => exact h
  | succ n ih => exact ih.drew
theorem At.drewN {w : World} {b : Nat} {cs : Array Value} {t : TypeId} (h : At w b cs t) (n : Nat) : At (w.drewN n) b cs t := (get_drewN _ _ _).trans h

/-- "x" -/
def sx : Value := .string { data := #[120] }

theorem sx_key : keyOf Yba.prog 9 sx = some (.string [120]) := str_key { data := #[120] } (show 1 ≤ maxLen by simp [maxLen])

/-- The fallback, its one share, and the map of shares. -/
structure Sh (w : World) (B O S FB mR mS L : Nat) (oc : Array Value) (ob sb : Int) : Prop where
  hO : At w O oc 49
  o4 : oc[4]? = some (.map (some mR))
  o5 : oc[5]? = some (.map (some mS))
  o6 : oc[6]? = some (.slice (some ⟨FB, 0, none⟩) 1 1)
  o7 : oc[7]? = some (.int .i64 ob)
  hS : At w S #[sx, .int .i64 sb, .pointer (some ⟨L, 0, none⟩), .int .i64 0] 29
  hF : At w FB #[.pointer (some ⟨S, 0, none⟩)] 25
  hM : KMap w 9 mS (fun y u => y = sx ∧ u = .pointer (some ⟨S, 0, none⟩))
  b1 : B ≤ O ∧ B ≤ S ∧ B ≤ FB ∧ B ≤ mS

theorem Sh.keep {T : List TypeId} {M : List Nat} {B' : Nat} {w w' : World} {B O S FB mR mS L : Nat} {oc : Array Value} {ob sb : Int} (h : Sh w B O S FB mR mS L oc ob sb) (k : Kept T M B' w w') (h1 : 49 ∉ T) (h2 : 29 ∉ T) (h3 : 25 ∉ T) (h4 : mS ∉ M) : Sh w' B O S FB mR mS L oc ob sb :=
  ⟨k.cells _ _ _ h1 h.hO, h.o4, h.o5, h.o6, h.o7, k.cells _ _ _ h2 h.hS, k.cells _ _ _ h3 h.hF, h.hM.keep k h4, h.b1⟩

theorem only_two {w : World} {O S : Nat} {u v : Value} : Only [S, O] w ((w.setCell ⟨S, 1, none⟩ u).setCell ⟨O, 7, none⟩ v) :=
  ((Only.refl _ w).setCell _ (by simp) _).setCell _ (by simp) _

set_option maxRecDepth 100000 in
set_option maxHeartbeats 1600000 in
theorem resize_more (w : World) (B O S FB mR mS L : Nat) (oc : Array Value) (ob sb b n : Int) (h : Sh w B O S FB mR mS L oc ob sb) (hB : B ≤ w.heap.size) (hL : ∃ cs, At w L cs 82 ∧ cs[4]? = some (.int .i64 n)) (hn : 0 < n)
    (w1 : -1000000000 < ob + b) (w2 : ob + b < 1000000000) (w3 : -1000000000 < sb + b) (w4 : sb + b < 1000000000) :
    Calls Yba.prog 16 #[.pointer (some ⟨O, 0, none⟩), .pointer (some ⟨S, 0, none⟩), .int .i64 b] w fun e w' => e = .returned (.tuple #[]) ∧ Sh w' B O S FB mR mS L (oc.setIfInBounds 7 (.int .i64 (ob + b))) (ob + b) (sb + b) ∧ Kept [29, 49] [] B w w' := by
  obtain ⟨lc, hLc, hl4⟩ := hL
  have nLS := hLc.ne h.hS (by decide)
  have nLO := hLc.ne h.hO (by decide)
  have nOS := h.hO.ne h.hS (by decide)
  have nSO : S ≠ O := fun e => nOS e.symm
  have nFO := h.hF.ne h.hO (by decide)
  have nFS := h.hF.ne h.hS (by decide)
  have HI : Hid (∀ x : World, x = (w.setCell ⟨S, 1, none⟩ (.int .i64 (sb + b))).setCell ⟨O, 7, none⟩ (.int .i64 (ob + b)) →
      Calls Yba.prog 8 #[.pointer (some ⟨L, 0, none⟩)] x fun e w' => e = .returned (.int .i64 n) ∧ w'.cell? ⟨S, 3, none⟩ = some (.int .i64 0) ∧ w'.cell? ⟨O, 6, none⟩ = some (.slice (some ⟨FB, 0, none⟩) 1 1) ∧
        ∀ k, Sh (w'.drewN k) B O S FB mR mS L (oc.setIfInBounds 7 (.int .i64 (ob + b))) (ob + b) (sb + b) ∧ Kept [29, 49] [] B w (w'.drewN k)) := by
    intro x hx
    have OO : Only [S, O] w x := by rw [hx]; exact only_two
    have hL' : At x L lc 82 := hLc.keep OO (by simp [nLS, nLO])
    have hO' : At x O (oc.setIfInBounds 7 (.int .i64 (ob + b))) 49 := by rw [hx]; exact (h.hO.other nOS 1 _).same 7 _
    have hS' : At x S #[sx, .int .i64 (sb + b), .pointer (some ⟨L, 0, none⟩), .int .i64 0] 29 := by rw [hx]; exact (h.hS.same 1 _).other nSO 7 _
    have hF' : At x FB #[.pointer (some ⟨S, 0, none⟩)] 25 := h.hF.keep OO (by simp [nFS, nFO])
    have K0 : Kept [29, 49] [] B w x := Kept.of_only OO hB (by
      intro y hy
      simp only [List.mem_cons, List.not_mem_nil, or_false] at hy
      rcases hy with rfl | rfl
      · exact ⟨h.b1.2.1, .inl ⟨_, _, h.hS, by simp⟩⟩
      · exact ⟨h.b1.1, .inl ⟨_, _, h.hO, by simp⟩⟩)
    have o6' : (oc.setIfInBounds 7 (.int .i64 (ob + b)))[6]? = some (.slice (some ⟨FB, 0, none⟩) 1 1) := by rw [Array.getElem?_setIfInBounds_ne (by decide)]; exact h.o6
    refine (len_any x L n (hL'.cell 4 _ hl4)).mono ?_
    rintro e w' ⟨rfl, rfl⟩
    refine ⟨rfl, hS'.cell 3 _ rfl, hO'.cell 6 _ o6', fun k => ⟨⟨hO'.drewN k, ?_, ?_, o6', ?_, hS'.drewN k, hF'.drewN k, (h.hM.keep K0 (by simp)).drewN k, h.b1⟩, K0.trans (Kept.of_only (only_drewN (Only.refl [] w') k) (Nat.le_trans hB OO.size) (by simp))⟩⟩
    · rw [Array.getElem?_setIfInBounds_ne (by decide)]; exact h.o4
    · rw [Array.getElem?_setIfInBounds_ne (by decide)]; exact h.o5
    · rw [Array.getElem?_setIfInBounds_self_of_lt]
      exact (Array.getElem?_eq_some_iff.1 h.o7).1
  have a1 := h.hS.cell 1 _ rfl
  have a2 := h.hS.cell 2 _ rfl
  have z1 := h.hS.loose 1
  have a7 := h.hO.cell 7 _ h.o7
  have z7 := h.hO.loose 7
  clear h hLc
  go_enter Yba.func16, Yba.ntmps16
  go_wp2_with fail
  refine Calls.mono (HI.out _ rfl) ?_
  rintro e x ⟨rfl, c3, c6, hx⟩
  have HX := hid hx
  have HFx : Hid (∀ m, Calls Yba.prog 20 #[.iface 91 (.pointer (some ⟨O, 6, none⟩)), .int .i64 0] (x.drewN m) fun e w' => e = .returned (.tuple #[]) ∧ w' = x.drewN m) := fun m => fix_any (x.drewN m) O FB (by rw [World.cell?_of_block (w := x) (get_drewN x m O)]; exact c6)
  clear hx HI a1 a2 z1 a7 z7
  go_wp2_with fail
  go_quiet ((go_at_call 20; exact Calls.quiet_of_same (HFx.out _)))
  go_wp2
  go_end0
  exact ⟨rfl, (HX.out _).1, (HX.out _).2⟩

set_option maxRecDepth 100000 in
set_option maxHeartbeats 1600000 in
theorem resize_last (w : World) (B O S FB mR mS L : Nat) (oc : Array Value) (ob sb b : Int) (h : Sh w B O S FB mR mS L oc ob sb) (hB : B ≤ w.heap.size) (hL : ∃ cs, At w L cs 82 ∧ cs[4]? = some (.int .i64 0))
    (w1 : -1000000000 < ob + b) (w2 : ob + b < 1000000000) (w3 : -1000000000 < sb + b) (w4 : sb + b < 1000000000) :
    Calls Yba.prog 16 #[.pointer (some ⟨O, 0, none⟩), .pointer (some ⟨S, 0, none⟩), .int .i64 b] w fun e w' => e = .returned (.tuple #[]) ∧
      (∃ oc', At w' O oc' 49 ∧ oc'[4]? = some (.map (some mR)) ∧ oc'[5]? = some (.map (some mS)) ∧ oc'[6]? = some (.slice (some ⟨FB, 0, none⟩) 0 1) ∧ oc'[7]? = some (.int .i64 (ob + b))) ∧
      (∃ sc, At w' S sc 29 ∧ sc[2]? = some (.pointer (some ⟨L, 0, none⟩))) ∧ KMap w' 9 mS (fun _ _ => False) ∧ Kept [29, 49, 25] [mS] B w w' := by
  obtain ⟨lc, hLc, hl4⟩ := hL
  have nLS := hLc.ne h.hS (by decide)
  have nLO := hLc.ne h.hO (by decide)
  have nOS := h.hO.ne h.hS (by decide)
  have nSO : S ≠ O := fun e => nOS e.symm
  have nFO := h.hF.ne h.hO (by decide)
  have nFS := h.hF.ne h.hS (by decide)
  have HI : Hid (∀ x : World, x = (w.setCell ⟨S, 1, none⟩ (.int .i64 (sb + b))).setCell ⟨O, 7, none⟩ (.int .i64 (ob + b)) →
      Calls Yba.prog 8 #[.pointer (some ⟨L, 0, none⟩)] x fun e w' => e = .returned (.int .i64 0) ∧ w'.cell? ⟨S, 3, none⟩ = some (.int .i64 0) ∧
        Calls Yba.prog 18 #[.iface 91 (.pointer (some ⟨O, 6, none⟩)), .int .i64 0] w'.drew fun e w2 => (∃ v, e = .returned v) ∧ w2.cell? ⟨O, 5, none⟩ = some (.map (some mS)) ∧ w2.cell? ⟨S, 0, none⟩ = some sx ∧
          ∃ w3, (Builtin.delete_ #[32, 9] 1 #[.map (some mS), sx]).run Yba.prog w2.drew = .ok (.tuple #[]) w3 ∧
            ((∃ oc', At w3 O oc' 49 ∧ oc'[4]? = some (.map (some mR)) ∧ oc'[5]? = some (.map (some mS)) ∧ oc'[6]? = some (.slice (some ⟨FB, 0, none⟩) 0 1) ∧ oc'[7]? = some (.int .i64 (ob + b))) ∧
              (∃ sc, At w3 S sc 29 ∧ sc[2]? = some (.pointer (some ⟨L, 0, none⟩))) ∧ KMap w3 9 mS (fun _ _ => False) ∧ Kept [29, 49, 25] [mS] B w w3)) := by
    intro x hx
    have OO : Only [S, O] w x := by rw [hx]; exact only_two
    have hL' : At x L lc 82 := hLc.keep OO (by simp [nLS, nLO])
    have hO' : At x O (oc.setIfInBounds 7 (.int .i64 (ob + b))) 49 := by rw [hx]; exact (h.hO.other nOS 1 _).same 7 _
    have hS' : At x S #[sx, .int .i64 (sb + b), .pointer (some ⟨L, 0, none⟩), .int .i64 0] 29 := by rw [hx]; exact (h.hS.same 1 _).other nSO 7 _
    have hF' : At x FB #[.pointer (some ⟨S, 0, none⟩)] 25 := h.hF.keep OO (by simp [nFS, nFO])
    have hb := h.b1
    have K0 : Kept [29, 49, 25] [mS] B w x := Kept.of_only OO hB (by
      intro y hy
      simp only [List.mem_cons, List.not_mem_nil, or_false] at hy
      rcases hy with rfl | rfl
      · exact ⟨h.b1.2.1, .inl ⟨_, _, h.hS, by simp⟩⟩
      · exact ⟨h.b1.1, .inl ⟨_, _, h.hO, by simp⟩⟩)
    have hM' : KMap x 9 mS _ := h.hM.keep (Kept.of_only (T := [29, 49]) (M := []) OO hB (by
      intro y hy
      simp only [List.mem_cons, List.not_mem_nil, or_false] at hy
      rcases hy with rfl | rfl
      · exact ⟨h.b1.2.1, .inl ⟨_, _, h.hS, by simp⟩⟩
      · exact ⟨h.b1.1, .inl ⟨_, _, h.hO, by simp⟩⟩)) (by simp)
    have p4 : (oc.setIfInBounds 7 (.int .i64 (ob + b)))[4]? = some (.map (some mR)) := by rw [Array.getElem?_setIfInBounds_ne (by decide)]; exact h.o4
    have p5 : (oc.setIfInBounds 7 (.int .i64 (ob + b)))[5]? = some (.map (some mS)) := by rw [Array.getElem?_setIfInBounds_ne (by decide)]; exact h.o5
    have p6 : (oc.setIfInBounds 7 (.int .i64 (ob + b)))[6]? = some (.slice (some ⟨FB, 0, none⟩) 1 1) := by rw [Array.getElem?_setIfInBounds_ne (by decide)]; exact h.o6
    have p7 : (oc.setIfInBounds 7 (.int .i64 (ob + b)))[7]? = some (.int .i64 (ob + b)) := by
      rw [Array.getElem?_setIfInBounds_self_of_lt]
      exact (Array.getElem?_eq_some_iff.1 h.o7).1
    generalize oc.setIfInBounds 7 (.int .i64 (ob + b)) = od at *
    refine (len_any x L 0 (hL'.cell 4 _ hl4)).mono ?_
    rintro e w' ⟨rfl, rfl⟩
    clear hx
    refine ⟨rfl, hS'.cell 3 _ rfl, ?_⟩
    have hO2 : At w'.drew O od 49 := hO'
    have hF2 : At w'.drew FB #[.pointer (some ⟨S, 0, none⟩)] 25 := hF'
    have hS2 : At w'.drew S #[sx, .int .i64 (sb + b), .pointer (some ⟨L, 0, none⟩), .int .i64 0] 29 := hS'
    have K2 : Kept [29, 49, 25] [mS] B w w'.drew := K0.drew
    have hM2 : KMap w'.drew 9 mS _ := hM'
    refine (hremove_any w'.drew O FB S od _ _ _ _ hO2 p6 hF2 hS2).mono ?_
    rintro e w2 ⟨rfl, g1, g2, g3⟩
    have q4 : (od.setIfInBounds 6 (.slice (some ⟨FB, 0, none⟩) 0 1))[4]? = some (.map (some mR)) := by rw [Array.getElem?_setIfInBounds_ne (by decide)]; exact p4
    have q5 : (od.setIfInBounds 6 (.slice (some ⟨FB, 0, none⟩) 0 1))[5]? = some (.map (some mS)) := by rw [Array.getElem?_setIfInBounds_ne (by decide)]; exact p5
    have q7 : (od.setIfInBounds 6 (.slice (some ⟨FB, 0, none⟩) 0 1))[7]? = some (.int .i64 (ob + b)) := by rw [Array.getElem?_setIfInBounds_ne (by decide)]; exact p7
    have q6 : (od.setIfInBounds 6 (.slice (some ⟨FB, 0, none⟩) 0 1))[6]? = some (.slice (some ⟨FB, 0, none⟩) 0 1) := by
      rw [Array.getElem?_setIfInBounds_self_of_lt]
      exact (Array.getElem?_eq_some_iff.1 p6).1
    have K3 : Kept [29, 49, 25] [] B w'.drew w2 := Kept.of_only g3 (Nat.le_trans hB K2.size) (by
      intro y hy
      simp only [List.mem_cons, List.not_mem_nil, or_false] at hy
      rcases hy with rfl | rfl | rfl
      · exact ⟨hb.1, .inl ⟨_, _, hO2, by simp⟩⟩
      · exact ⟨hb.2.2.1, .inl ⟨_, _, hF2, by simp⟩⟩
      · exact ⟨hb.2.1, .inl ⟨_, _, hS2, by simp⟩⟩)
    refine ⟨⟨_, rfl⟩, g1.cell 5 _ q5, g2.cell 0 _ rfl, ?_⟩
    have hM3 : KMap w2.drew 9 mS _ := hM2.keep K3.drew (by simp)
    obtain ⟨w3, r1, r2, r3⟩ := hM3.del strLaw Yba.underlying32 sx_key 1 ⟨rfl, rfl⟩
    have K4 : Kept [29, 49, 25] [mS] B w2.drew w3 := Kept.of_only r3 (Nat.le_trans hB (Nat.le_trans K2.size K3.size)) (by
      intro y hy
      simp only [List.mem_cons, List.not_mem_nil, or_false] at hy
      subst hy
      obtain ⟨es, c, hh, _⟩ := hM3
      exact ⟨hb.2.2.2, .inr ⟨by simp, es, c, hh⟩⟩)
    refine ⟨w3, r1, ⟨_, r3.at ?_ g1, q4, q5, q6, q7⟩, ⟨_, r3.at ?_ g2, rfl⟩, r2.congr ?_, K2.trans ((K3.mono (fun _ h => h) (by simp)).drew.trans K4)⟩
    · simp only [List.mem_singleton]; exact hM3.neAt g1
    · simp only [List.mem_singleton]; exact hM3.neAt g2
    · rintro y u
      simp only [false_iff, not_and]
      rintro ⟨rfl, _⟩ hne
      exact hne rfl
  have a1 := h.hS.cell 1 _ rfl
  have a2 := h.hS.cell 2 _ rfl
  have z1 := h.hS.loose 1
  have a7 := h.hO.cell 7 _ h.o7
  have z7 := h.hO.loose 7
  clear h hLc
  go_enter Yba.func16, Yba.ntmps16
  go_wp2_with fail
  refine Calls.mono (HI.out _ rfl) ?_
  rintro e x ⟨rfl, c3, hx⟩
  have HX := hid hx
  clear hx HI a1 a2 z1 a7 z7
  go_wp2_with fail
  go_region_with (go_at_call 18; refine Calls.mono HX.out ?_; rintro e w2 ⟨⟨v, rfl⟩, c5, c0, hw⟩)
  all_goals
    simp only [sx] at c0 hw
    obtain ⟨w3, hr, hE⟩ := hw
    have HE := hid hE
    clear hE HX
    go_wp2_with fail
    go_region_law (refine step_delete_run (by rfl) _ _ _ _ (by rfl) _ _ (by rfl) (by rfl) _ _ hr ?_)
  all_goals
    go_wp2
    go_end0
    exact ⟨rfl, HE.out.1, HE.out.2.1, HE.out.2.2.1, HE.out.2.2.2⟩
end Go.Proofs.Ybulkaccc
