/- callRefusal, foldRefusal. -/
import Derived.Test.YbulkabzkFmtReads
import Derived.Test.YbulkabzkFmtErrs
namespace Go.Proofs.YbulkabzkFmt
open Go.RowKit Go.Extern.Stop Go.Stop Go.Extern

/-- Of an error value: is it nil. -/
def EqNil (r : Value) (b : Bool) : Prop :=
  (∀ w : World, (binOp .eql 32 r .nilIface).run Ybaf.prog w = .ok (.bool b) w) ∧ ∀ (x : Operand) (v : Value) (w : World), (eqGuard .eql 32 x (.const v) r .nilIface).run Ybaf.prog w = .ok () w

theorem eqNil_nil : EqNil .nilIface true := ⟨fun w => by simp [go_sem], fun x v w => by simp [go_sem, eqGuard]⟩
theorem eqNil_some (T : TypeId) (a : Option Addr) : EqNil (.iface T (.pointer a)) false := ⟨fun w => by simp [go_sem], fun x v w => by simp [go_sem, eqGuard]⟩

/-- A refusal has come back (nil where b), nothing old has turned. -/
def Refused (w : World) (b : Bool) (e : Ending) (w' : World) : Prop := ∃ r, e = .returned r ∧ EqNil r b ∧ Below w.heap.size w w'

theorem open_any (w : World) (L : Loc) (S : St) (O : S.Ok) (H : HandAt w L S) :
    Calls Ybaf.prog 29 #[.pointer (some ⟨L.h, 0, none⟩)] w fun e w' => e = .returned (.tuple #[.int .i64 S.dueBet, .bool S.dueB]) ∧ ∃ m, w' = w.drewN m := by
  cases ho : S.opn
  · exact quietMono (by simp [St.dueBet, St.dueB, ho]) (open_none w L S H ho)
  · by_cases hd : S.opened < S.nops
    · exact quietMono (by simp [St.dueBet, St.dueB, ho, hd]) (open_due w L S O H ho hd)
    · exact quietMono (by simp [St.dueBet, St.dueB, ho, hd]) (open_past w L S O H ho (by omega))

theorem bel_dN {w : World} (n : Nat) : Below w.heap.size w (w.drewN n) := below_drewN (Below.refl _ _) n
theorem HandAt.after {w w1 : World} {L : Loc} {S : St} (H : HandAt w L S) (h : ∃ m, w1 = w.drewN m) : HandAt w1 L S ∧ Below w.heap.size w w1 := by
  obtain ⟨m, rfl⟩ := h
  exact ⟨H.dN m, bel_dN m⟩
theorem ansB {B : Nat} {F : Interp} {w w1 : World} (hb : Below B w w1) (hF : F.answers w.tape) : F.answers w1.tape := by rw [hb.tape]; exact hF
theorem ansA {B : Nat} {F : Interp} {w w1 : World} (o : Obj) (hb : Below B w w1) (hF : F.answers w.tape) : F.answers (w1.alloc o).tape := by
  show F.answers w1.tape
  exact ansB hb hF
theorem newCell (w : World) (cs : Array Value) (t : TypeId) (j : Nat) : (w.alloc (.cells cs t)).cell? ⟨w.heap.size, j, none⟩ = cs[j]? := World.cell?_alloc_at cs t _ j rfl
theorem belT {w w1 w2 : World} (h : Below w.heap.size w w1) (k : Below w1.heap.size w1 w2) : Below w.heap.size w w2 := h.trans (k.mono h.size)
theorem belA {w w1 w2 : World} (o : Obj) (h : Below w.heap.size w w1) (k : Below (w1.alloc o).heap.size (w1.alloc o) w2) : Below w.heap.size w w2 :=
  (h.alloc h.size o).trans (k.mono (by have := h.size; simp; omega))

set_option maxHeartbeats 400000 in
theorem callRef_any (F : Interp) (w : World) (L : Loc) (S : St) (O : S.Ok) (H : HandAt w L S) (hF : F.answers w.tape) :
    Calls Ybaf.prog 26 #[.pointer (some ⟨L.h, 0, none⟩)] w (Refused w (!S.dueB)) := by
  cases hd : S.dueB
  · go_enter Ybaf.func26, Ybaf.ntmps26
    go_wp2_with fail
    refine (open_any w L S O H).mono ?_
    rw [hd]
    rintro e w1 ⟨rfl, hq⟩
    obtain ⟨-, hb1⟩ := H.after hq
    clear hq
    go_wp2
    go_ret
    exact ⟨_, rfl, eqNil_nil, hb1⟩
  · go_enter Ybaf.func26, Ybaf.ntmps26
    go_wp2_with fail
    refine (open_any w L S O H).mono ?_
    rw [hd]
    rintro e w1 ⟨rfl, hq⟩
    obtain ⟨-, hb1⟩ := H.after hq
    clear hq
    go_wp2_with fail
    refine (errorf_call F S.dueBet w1.heap.size _ (by exact ansA _ hb1 hF) (newCell _ _ _ _)).mono ?_
    rintro e w2 ⟨T, b, rfl, hb2⟩
    go_wp2
    go_ret
    exact ⟨_, rfl, eqNil_some _ _, belA _ hb1 hb2⟩

set_option maxHeartbeats 400000 in
theorem foldRef_A1 (w : World) (L : Loc) (S : St) (O : S.Ok) (H : HandAt w L S) (hd : S.dueB = false) (hlt : S.spent S.actor < S.largest) :
    Calls Ybaf.prog 28 #[.pointer (some ⟨L.h, 0, none⟩)] w (Refused w true) := by
  have hact := O.act
  have h8 := O.n8
  have hdec : decide (S.largest ≤ S.spent S.actor) = false := by simp; omega
  go_enter Ybaf.func28, Ybaf.ntmps28
  go_wp2_with fail
  refine (open_any w L S O H).mono ?_
  rw [hd]
  rintro e w1 ⟨rfl, hq⟩
  obtain ⟨H1, hb1⟩ := H.after hq
  clear hd hq
  have hh0 := H1.h0
  have hh3 := H1.h3
  have hh8 := H1.h8
  have hh12 := H1.h12
  have hg9 := H1.g9
  have hsp := H1.spi _ O.act
  go_wp2_with fail
  go_quiet ((go_at_call 44; exact Calls.quiet_of_same (largest_any _ L S O (H1.dN _))))
  go_wp2
  go_ret
  exact ⟨_, rfl, eqNil_nil, belT hb1 (bel_dN nq)⟩

set_option maxHeartbeats 400000 in
theorem foldRef_A2 (w : World) (L : Loc) (S : St) (O : S.Ok) (H : HandAt w L S) (hd : S.dueB = false) (hlt : ¬ S.spent S.actor < S.largest) (hf : S.ff = false) :
    Calls Ybaf.prog 28 #[.pointer (some ⟨L.h, 0, none⟩)] w (Refused w false) := by
  have hact := O.act
  have h8 := O.n8
  have hdec : decide (S.largest ≤ S.spent S.actor) = true := by simp; omega
  go_enter Ybaf.func28, Ybaf.ntmps28
  go_wp2_with fail
  refine (open_any w L S O H).mono ?_
  rw [hd]
  rintro e w1 ⟨rfl, hq⟩
  obtain ⟨H1, hb1⟩ := H.after hq
  clear hd hq
  have hh0 := H1.h0
  have hh3 := H1.h3
  have hh8 := H1.h8
  have hh12 := H1.h12
  have hg9 := H1.g9
  have hsp := H1.spi _ O.act
  rw [hf] at hg9
  clear hf
  go_wp2_with fail
  go_quiet ((go_at_call 44; exact Calls.quiet_of_same (largest_any _ L S O (H1.dN _))))
  go_wp2_with fail
  refine (errorf_fold2 _).mono ?_
  rintro e w2 ⟨T, b, rfl, hb2⟩
  go_wp2
  go_ret
  exact ⟨_, rfl, eqNil_some _ _, belT hb1 (belT (bel_dN nq) hb2)⟩

set_option maxHeartbeats 400000 in
theorem foldRef_A3 (w : World) (L : Loc) (S : St) (O : S.Ok) (H : HandAt w L S) (hd : S.dueB = false) (hlt : ¬ S.spent S.actor < S.largest) (hf : S.ff = true) :
    Calls Ybaf.prog 28 #[.pointer (some ⟨L.h, 0, none⟩)] w (Refused w true) := by
  have hact := O.act
  have h8 := O.n8
  have hdec : decide (S.largest ≤ S.spent S.actor) = true := by simp; omega
  go_enter Ybaf.func28, Ybaf.ntmps28
  go_wp2_with fail
  refine (open_any w L S O H).mono ?_
  rw [hd]
  rintro e w1 ⟨rfl, hq⟩
  obtain ⟨H1, hb1⟩ := H.after hq
  clear hd hq
  have hh0 := H1.h0
  have hh3 := H1.h3
  have hh8 := H1.h8
  have hh12 := H1.h12
  have hg9 := H1.g9
  have hsp := H1.spi _ O.act
  rw [hf] at hg9
  clear hf
  go_wp2_with fail
  go_quiet ((go_at_call 44; exact Calls.quiet_of_same (largest_any _ L S O (H1.dN _))))
  go_wp2
  go_ret
  exact ⟨_, rfl, eqNil_nil, belT hb1 (bel_dN nq)⟩

set_option maxHeartbeats 400000 in
theorem foldRef_C1 (w : World) (L : Loc) (S : St) (O : S.Ok) (H : HandAt w L S) (hd : S.dueB = true) (ho : S.opened ≠ 0) (hlt : S.spent S.actor < S.largest) :
    Calls Ybaf.prog 28 #[.pointer (some ⟨L.h, 0, none⟩)] w (Refused w true) := by
  have hact := O.act
  have h8 := O.n8
  have hdec : decide (S.largest ≤ S.spent S.actor) = false := by simp; omega
  have ho' : ((S.opened : Int) == 0) = false := by rw [beq_eq_false_iff_ne]; omega
  clear ho
  go_enter Ybaf.func28, Ybaf.ntmps28
  go_wp2_with fail
  refine (open_any w L S O H).mono ?_
  rw [hd]
  rintro e w1 ⟨rfl, hq⟩
  obtain ⟨H1, hb1⟩ := H.after hq
  clear hd hq
  have hh0 := H1.h0
  have hh3 := H1.h3
  have hh8 := H1.h8
  have hh12 := H1.h12
  have hg9 := H1.g9
  have hsp := H1.spi _ O.act
  go_wp2_with fail
  go_quiet ((go_at_call 44; exact Calls.quiet_of_same (largest_any _ L S O (H1.dN _))))
  go_wp2
  go_ret
  exact ⟨_, rfl, eqNil_nil, belT hb1 (bel_dN nq)⟩

set_option maxHeartbeats 400000 in
theorem foldRef_C2 (w : World) (L : Loc) (S : St) (O : S.Ok) (H : HandAt w L S) (hd : S.dueB = true) (ho : S.opened ≠ 0) (hlt : ¬ S.spent S.actor < S.largest) (hf : S.ff = false) :
    Calls Ybaf.prog 28 #[.pointer (some ⟨L.h, 0, none⟩)] w (Refused w false) := by
  have hact := O.act
  have h8 := O.n8
  have hdec : decide (S.largest ≤ S.spent S.actor) = true := by simp; omega
  have ho' : ((S.opened : Int) == 0) = false := by rw [beq_eq_false_iff_ne]; omega
  clear ho
  go_enter Ybaf.func28, Ybaf.ntmps28
  go_wp2_with fail
  refine (open_any w L S O H).mono ?_
  rw [hd]
  rintro e w1 ⟨rfl, hq⟩
  obtain ⟨H1, hb1⟩ := H.after hq
  clear hd hq
  have hh0 := H1.h0
  have hh3 := H1.h3
  have hh8 := H1.h8
  have hh12 := H1.h12
  have hg9 := H1.g9
  have hsp := H1.spi _ O.act
  rw [hf] at hg9
  clear hf
  go_wp2_with fail
  go_quiet ((go_at_call 44; exact Calls.quiet_of_same (largest_any _ L S O (H1.dN _))))
  go_wp2_with fail
  refine (errorf_fold2 _).mono ?_
  rintro e w2 ⟨T, b, rfl, hb2⟩
  go_wp2
  go_ret
  exact ⟨_, rfl, eqNil_some _ _, belT hb1 (belT (bel_dN nq) hb2)⟩

set_option maxHeartbeats 400000 in
theorem foldRef_C3 (w : World) (L : Loc) (S : St) (O : S.Ok) (H : HandAt w L S) (hd : S.dueB = true) (ho : S.opened ≠ 0) (hlt : ¬ S.spent S.actor < S.largest) (hf : S.ff = true) :
    Calls Ybaf.prog 28 #[.pointer (some ⟨L.h, 0, none⟩)] w (Refused w true) := by
  have hact := O.act
  have h8 := O.n8
  have hdec : decide (S.largest ≤ S.spent S.actor) = true := by simp; omega
  have ho' : ((S.opened : Int) == 0) = false := by rw [beq_eq_false_iff_ne]; omega
  clear ho
  go_enter Ybaf.func28, Ybaf.ntmps28
  go_wp2_with fail
  refine (open_any w L S O H).mono ?_
  rw [hd]
  rintro e w1 ⟨rfl, hq⟩
  obtain ⟨H1, hb1⟩ := H.after hq
  clear hd hq
  have hh0 := H1.h0
  have hh3 := H1.h3
  have hh8 := H1.h8
  have hh12 := H1.h12
  have hg9 := H1.g9
  have hsp := H1.spi _ O.act
  rw [hf] at hg9
  clear hf
  go_wp2_with fail
  go_quiet ((go_at_call 44; exact Calls.quiet_of_same (largest_any _ L S O (H1.dN _))))
  go_wp2
  go_ret
  exact ⟨_, rfl, eqNil_nil, belT hb1 (bel_dN nq)⟩

set_option maxHeartbeats 400000 in
theorem foldRef_B (w : World) (L : Loc) (S : St) (O : S.Ok) (H : HandAt w L S) (hd : S.dueB = true) (ho : S.opened = 0) :
    Calls Ybaf.prog 28 #[.pointer (some ⟨L.h, 0, none⟩)] w (Refused w false) := by
  have ho' : ((S.opened : Int) == 0) = true := by rw [beq_iff_eq]; omega
  clear ho
  go_enter Ybaf.func28, Ybaf.ntmps28
  go_wp2_with fail
  refine (open_any w L S O H).mono ?_
  rw [hd]
  rintro e w1 ⟨rfl, hq⟩
  obtain ⟨H1, hb1⟩ := H.after hq
  clear hd hq
  have hh8 := H1.h8
  go_wp2_with fail
  refine (errorf_fold1 _).mono ?_
  rintro e w2 ⟨T, b, rfl, hb2⟩
  go_wp2
  go_ret
  exact ⟨_, rfl, eqNil_some _ _, belT hb1 hb2⟩

theorem foldRef_any (w : World) (L : Loc) (S : St) (O : S.Ok) (H : HandAt w L S) :
    Calls Ybaf.prog 28 #[.pointer (some ⟨L.h, 0, none⟩)] w (Refused w S.foldB) := by
  cases hd : S.dueB
  · by_cases hlt : S.spent S.actor < S.largest
    · rw [show S.foldB = true by simp [St.foldB, hd, hlt]]
      exact foldRef_A1 w L S O H hd hlt
    · cases hf : S.ff
      · rw [show S.foldB = false by simp [St.foldB, hd, hlt, hf]]
        exact foldRef_A2 w L S O H hd hlt hf
      · rw [show S.foldB = true by simp [St.foldB, hd, hf]]
        exact foldRef_A3 w L S O H hd hlt hf
  · by_cases ho : S.opened = 0
    · rw [show S.foldB = false by simp [St.foldB, hd, ho]]
      exact foldRef_B w L S O H hd ho
    · by_cases hlt : S.spent S.actor < S.largest
      · rw [show S.foldB = true by simp [St.foldB, hd, hlt, ho]]
        exact foldRef_C1 w L S O H hd ho hlt
      · cases hf : S.ff
        · rw [show S.foldB = false by simp [St.foldB, hd, hlt, hf]]
          exact foldRef_C2 w L S O H hd ho hlt hf
        · rw [show S.foldB = true by simp [St.foldB, hd, hf, ho]]
          exact foldRef_C3 w L S O H hd ho hlt hf
end Go.Proofs.YbulkabzkFmt
