/- Choices: the walk. -/
import Derived.Test.YbulkabzkFmtChoicesAt
namespace Go.Proofs.YbulkabzkFmt
open Go.RowKit Go.Extern.Stop Go.Stop Go.Extern

set_option maxRecDepth 100000 in
set_option maxHeartbeats 3000000 in
theorem choices_any (F : Interp) (w : World) (L : Loc) (S : St) (O : S.Ok) (H : HandAt w L S) (hF : F.answers w.tape) (a1 : Addr) (s1 : ByteArray) (a2 : Addr) (V : VarsAt w a1 s1 a2) :
    Calls Ybaf.prog 13 #[.pointer (some ⟨L.h, 0, none⟩)] w fun e w' => e = .returned (.agg #[.bool (!S.dueB), .int .i64 (owedI S), .bool S.foldB, .bool S.raiseB, .int .i64 S.least, .int .i64 S.most, .int .i64 (if S.dueB then S.opened + 1 else 0), .bool (sizedB S)]) ∧ Below w.heap.size w w' := by
  have hact := O.act
  have h8 := O.n8
  have hct := callTo_bd O
  have hsp0 := O.sp0 _ O.act
  have hsp1 := Int.le_trans (O.sp1 _ O.act) (O.stk1 _ O.act)
  go_enter Ybaf.func13, Ybaf.ntmps13
  go_upto_region 1 with fail
  have hbW := belAl (.cells #[.bool false, .int .i64 0, .bool false, .bool false, .int .i64 0, .int .i64 0, .int .i64 0, .bool false] 63) (Below.refl w.heap.size w)
  have rc : ∀ j, (w.alloc (.cells #[.bool false, .int .i64 0, .bool false, .bool false, .int .i64 0, .int .i64 0, .int .i64 0, .bool false] 63)).cell? ⟨w.heap.size, j, none⟩ = (#[.bool false, .int .i64 0, .bool false, .bool false, .int .i64 0, .int .i64 0, .int .i64 0, .bool false] : Array Value)[j]? := newCell w _ _
  have rz : ∀ j, (w.alloc (.cells #[.bool false, .int .i64 0, .bool false, .bool false, .int .i64 0, .int .i64 0, .int .i64 0, .bool false] 63)).frozen? ⟨w.heap.size, j, none⟩ = false := fun j => by simp
  have rs : w.heap.size < (w.alloc (.cells #[.bool false, .int .i64 0, .bool false, .bool false, .int .i64 0, .int .i64 0, .int .i64 0, .bool false] 63)).heap.size := by simp
  generalize w.alloc (.cells #[.bool false, .int .i64 0, .bool false, .bool false, .int .i64 0, .int .i64 0, .int .i64 0, .bool false] 63) = W1 at *
  have H1 := H.later hbW
  have V1 := V.later hbW
  have hF1 := ansB hbW hF
  go_cut [3] from 9 to 62 (fun s wx => ∃ cb, s = .pointer (some ⟨cb, 0, none⟩) ∧ ChAt W1 wx cb S false 0 0 0)
  case first =>
    clear rc rz V V1
    go_region_held (fun w' => w'.cell? ⟨L.h, 3, none⟩ = some (.slice (some ⟨L.bsp, 0, none⟩) S.n S.n) ∧ w'.cell? ⟨L.h, 12, none⟩ = some (.int .i64 S.actor) ∧ w'.cell? ⟨L.bsp, S.actor, none⟩ = some (.int .i64 (S.spent S.actor)) ∧
      w'.cell? ⟨L.h, 0, none⟩ = some (.pointer (some ⟨L.g, 0, none⟩)) ∧ w'.cell? ⟨L.g, 0, none⟩ = some (.string (betOf S.kind)) ∧ Below W1.heap.size W1 w')
      ((refine heldOf H1 O.act ?_; first | with_reducible assumption | with_reducible exact (Below.refl _ _).drew | with_reducible exact belAl _ (by assumption) | with_reducible exact belAl _ (Below.refl _ _).drew | with_reducible exact Below.drew (belAl _ (Below.refl _ _)) | (with_reducible refine belSet8 (by assumption) ?_ _ _ _ _ _ _ _ _; first | exact Nat.le_refl _ | exact Below.size (by assumption))))
      (first
        | (go_at_call 26; refine (callRef_any F _ L S O (H1.later (by simp [*])) (ansB (w := W1) (B := W1.heap.size) (by simp [*]) hF1)).mono ?_; rintro e w2 ⟨r2, rfl, hr2, hb2⟩; have hbw2 : Below W1.heap.size W1 w2 := belT (by simp [*]) hb2; obtain ⟨hn2, hm2⟩ := hr2; obtain ⟨hd2, hf2⟩ := bcell hb2; (try with_reducible have hz2 := ltAlD hb2))
        | (go_at_call 27; refine (callTo_any _ L S O (H1.later (by simp [*]))).mono ?_; rintro e w3 ⟨rfl, hq3⟩; have hbw3 : Below W1.heap.size W1 w3 := belQ (by simp [*]) hq3; obtain ⟨hd3, hf3⟩ := bcell (belQ (Below.refl _ _) hq3); (try with_reducible have hz3 := ltAl (belQ (Below.refl _ _) hq3)); (try with_reducible have hz3 := Nat.lt_of_lt_of_le ‹W1.heap.size < _› (belQ (Below.refl _ _) hq3).size))
        | (go_at_call 28; refine (foldRef_any _ L S O (H1.later (by simp [*]))).mono ?_; rintro e w4 ⟨r4, rfl, hr4, hb4⟩; have hbw4 : Below W1.heap.size W1 w4 := belT (by simp [*]) hb4; obtain ⟨hn4, hm4⟩ := hr4; obtain ⟨hd4, hf4⟩ := bcell hb4))
    all_goals
      go_wp2_with fail
      go_meet
      case rel =>
        first
          | with_reducible exact ⟨_, rfl, ChAt.fresh O hbw4⟩
          | (with_reducible refine ⟨_, rfl, ChAt.stored (b := w3.heap.size) O hbw4 ?h1 ?h2 ?h3 ?h4⟩
             case h1 => exact hbw3.size
             case h2 => exact ltAl hb4
             case h3 => exact fun j => (hf4 _ _ (by simp)).trans (by simp)
             case h4 => exact fun j => (hd4 _ _ (by simp)).trans (newCell _ _ _ j))
          | (with_reducible refine ⟨_, rfl, ChAt.stored (b := w2.heap.size) O hbw4 ?h1 ?h2 ?h3 ?h4⟩
             case h1 => exact hbw2.size
             case h2 => exact Nat.lt_of_lt_of_le hz3 hb4.size
             case h3 => exact fun j => (hf4 _ _ hz3).trans ((hf3 _ _ (by simp)).trans (by simp))
             case h4 => exact fun j => (hd4 _ _ hz3).trans ((hd3 _ _ (by simp)).trans (newCell _ _ _ j)))
          | (with_reducible refine ⟨_, rfl, ChAt.stored (b := W1.heap.size) O hbw4 ?h1 ?h2 ?h3 ?h4⟩
             case h1 => exact Nat.le_refl _
             case h2 => exact Nat.lt_of_lt_of_le hz3 hb4.size
             case h3 => exact fun j => (hf4 _ _ hz3).trans ((hf3 _ _ hz2).trans ((hf2 _ _ (by simp)).trans (by simp)))
             case h4 => exact fun j => (hd4 _ _ hz3).trans ((hd3 _ _ hz2).trans ((hd2 _ _ (by simp)).trans (newCell W1 _ _ j))))
         
  case rest =>
    obtain ⟨cb, rfl, C⟩ := hcut
    have H2 := H1.later C.bel
    have hop5 := O.opened1
    cases hd : S.dueB
    · cases hr : S.raiseB
      · have hno := no_raise hd hr
        go_wp2_with fail
        refine (open_any wc L S O H2).mono ?_
        rw [hd]
        rintro e w5 ⟨rfl, hq⟩
        obtain ⟨H5, hb5⟩ := H2.after hq
        have C5 := C.later hb5
        clear hq
        go_wp2_with fail
        have C6 := C5
        have hb6 := C6.bel
        refine (range_any F _ L S O (H1.later hb6) (ansB hb6 hF1) a1 s1 a2 (V1.later hb6)).mono ?_
        rw [hr]
        rintro e w7 ⟨r7, rfl, ⟨hn7, hm7⟩, hb7⟩
        have C7 := C6.later hb7
        have k0 := C7.c0
        have k1 := C7.c1
        have k2 := C7.c2
        have k3 := C7.c3
        have k4 := C7.c4
        have k5 := C7.c5
        have k6 := C7.c6
        have k7 := C7.c7
        have z := C7.frz
        have hold := C7.old
        have hcb : (cb == w.heap.size) = false := by rw [beq_eq_false_iff_ne]; omega
        have rc7 := fun j => (C7.bel.cell (p := ⟨w.heap.size, j, none⟩) rs).trans (rc j)
        have rz7 := fun j => (C7.bel.frozen (p := ⟨w.heap.size, j, none⟩) rs).trans (rz j)
        have C8 := C7
        have hb8 := belT hbW C8.bel
        clear C8
        go_wp2
        all_goals
          refine bodyPost_ret (v := .agg #[.bool true, .int .i64 (owedI S), .bool S.foldB, .bool false, .int .i64 0, .int .i64 0, .int .i64 0, .bool (sizedB S)]) ?_ rfl ⟨rfl, belSet8 hb8 (Nat.le_refl _) _ _ _ _ _ _ _ _⟩
          simp [results, Ybaf.results13, go_sem, rc7]
      · skip
        go_wp2_with fail
        refine (open_any wc L S O H2).mono ?_
        rw [hd]
        rintro e w5 ⟨rfl, hq⟩
        obtain ⟨H5, hb5⟩ := H2.after hq
        have C5 := C.later hb5
        clear hq
        go_wp2_with fail
        have C6 := C5
        have hb6 := C6.bel
        refine (range_any F _ L S O (H1.later hb6) (ansB hb6 hF1) a1 s1 a2 (V1.later hb6)).mono ?_
        rw [hr]
        rintro e w7 ⟨r7, rfl, ⟨hn7, hm7⟩, hb7⟩
        have C7 := C6.later hb7
        have k0 := C7.c0
        have k1 := C7.c1
        have k2 := C7.c2
        have k3 := C7.c3
        have k4 := C7.c4
        have k5 := C7.c5
        have k6 := C7.c6
        have k7 := C7.c7
        have z := C7.frz
        have hold := C7.old
        have hcb : (cb == w.heap.size) = false := by rw [beq_eq_false_iff_ne]; omega
        have rc7 := fun j => (C7.bel.cell (p := ⟨w.heap.size, j, none⟩) rs).trans (rc j)
        have rz7 := fun j => (C7.bel.frozen (p := ⟨w.heap.size, j, none⟩) rs).trans (rz j)
        have C8 := C7.set345 S.least S.most
        have hb8 := belT hbW C8.bel
        clear C8
        go_wp2
        all_goals
          refine bodyPost_ret (v := .agg #[.bool true, .int .i64 (owedI S), .bool S.foldB, .bool true, .int .i64 S.least, .int .i64 S.most, .int .i64 0, .bool (sizedB S)]) ?_ rfl ⟨rfl, belSet8 hb8 (Nat.le_refl _) _ _ _ _ _ _ _ _⟩
          simp [results, Ybaf.results13, go_sem, rc7]
    · have hr : S.raiseB = true := by simp [St.raiseB, hd]
      go_wp2_with fail
      refine (open_any wc L S O H2).mono ?_
      rw [hd]
      rintro e w5 ⟨rfl, hq⟩
      obtain ⟨H5, hb5⟩ := H2.after hq
      have C5 := C.later hb5
      clear hq
      have k6 := C5.c6
      have z6 := C5.frz 6
      have k8 := H5.h8
      go_wp2_with fail
      have C6 := C5.set6 (S.opened + 1)
      have hb6 := C6.bel
      clear k6 z6 k8
      refine (range_any F _ L S O (H1.later hb6) (ansB hb6 hF1) a1 s1 a2 (V1.later hb6)).mono ?_
      rw [hr]
      rintro e w7 ⟨r7, rfl, ⟨hn7, hm7⟩, hb7⟩
      have C7 := C6.later hb7
      have k0 := C7.c0
      have k1 := C7.c1
      have k2 := C7.c2
      have k3 := C7.c3
      have k4 := C7.c4
      have k5 := C7.c5
      have k6 := C7.c6
      have k7 := C7.c7
      have z := C7.frz
      have hold := C7.old
      have hcb : (cb == w.heap.size) = false := by rw [beq_eq_false_iff_ne]; omega
      have rc7 := fun j => (C7.bel.cell (p := ⟨w.heap.size, j, none⟩) rs).trans (rc j)
      have rz7 := fun j => (C7.bel.frozen (p := ⟨w.heap.size, j, none⟩) rs).trans (rz j)
      have C8 := C7.set345 S.least S.most
      have hb8 := belT hbW C8.bel
      clear C8
      go_wp2
      all_goals
        refine bodyPost_ret (v := .agg #[.bool false, .int .i64 (owedI S), .bool S.foldB, .bool true, .int .i64 S.least, .int .i64 S.most, .int .i64 (S.opened + 1), .bool (sizedB S)]) ?_ rfl ⟨rfl, belSet8 hb8 (Nat.le_refl _) _ _ _ _ _ _ _ _⟩
        simp [results, Ybaf.results13, go_sem, rc7]

end Go.Proofs.YbulkabzkFmt
