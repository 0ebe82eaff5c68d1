/- LawS1409BFrame: the walk, up to the call of block. -/
import Derived.Test.YbulkacdsFmtEq
set_option linter.unusedVariables false
set_option linter.unusedSimpArgs false
namespace Go.Proofs.YbulkacdsFmt
open Go.RowKit Go.Extern.Stop Go.Stop Go.Extern

theorem frame_long1 (w : World) (a1 : Option Addr) (l1 c1 : Nat) (v2 : Value) (sel rep : Int) (hasErr : Bool) (h : 1024 < (l1 : Int)) (l2 c2 : Nat) (a2 : Option Addr) (hv : v2 = .slice a2 l2 c2) :
    Calls Ybaf.prog 5 #[.slice a1 l1 c1, v2, .int .u8 sel, .int .u8 rep, .bool hasErr] w fun e w' => e = .returned (.bool true) ∧ Below w.heap.size w w' := by
  subst hv
  go_enter Ybaf.func5, Ybaf.ntmps5
  go_wp2
  go_ret
  exact ⟨rfl, ((Below.refl _ w).alloc (Nat.le_refl _) _).alloc (by simp) _⟩

theorem frame_long2 (w : World) (a1 : Option Addr) (l1 c1 : Nat) (sel rep : Int) (hasErr : Bool) (h : (l1 : Int) ≤ 1024) (l2 c2 : Nat) (a2 : Option Addr) (h2 : 1024 < (l2 : Int)) :
    Calls Ybaf.prog 5 #[.slice a1 l1 c1, .slice a2 l2 c2, .int .u8 sel, .int .u8 rep, .bool hasErr] w fun e w' => e = .returned (.bool true) ∧ Below w.heap.size w w' := by
  go_enter Ybaf.func5, Ybaf.ntmps5
  go_wp2
  go_ret
  exact ⟨rfl, ((Below.refl _ w).alloc (Nat.le_refl _) _).alloc (by simp) _⟩

/-- The four variables that are made first. -/
structure Four (w W : World) (pv dv : Value) (size reps : Nat) : Prop where
  hp : W.heap[w.heap.size]? = some (.cells #[pv] 22 (0, 0))
  hd : W.heap[w.heap.size + 1]? = some (.cells #[dv] 22 (0, 0))
  hs : W.heap[w.heap.size + 1 + 1]? = some (.cells #[.int .i64 size] 3 (0, 0))
  hr : W.heap[w.heap.size + 1 + 1 + 1]? = some (.cells #[.int .i64 reps] 3 (0, 0))
  B : Below w.heap.size w W
  N : w.heap.size + 4 ≤ W.heap.size

theorem four_made (w : World) (pv dv : Value) (size reps : Nat) : Four w ((((w.alloc (.cells #[pv] 22)).alloc (.cells #[dv] 22)).alloc (.cells #[.int .i64 size] 3)).alloc (.cells #[.int .i64 reps] 3)) pv dv size reps := by
  refine ⟨?_, ?_, ?_, ?_, ((((Below.refl _ w).alloc (Nat.le_refl _) _).alloc (by simp) _).alloc (by simp; omega) _).alloc (by simp; omega) _, by simp⟩
  · rw [Below.heap_alloc _ _ _ (by simp; omega), Below.heap_alloc _ _ _ (by simp; omega), Below.heap_alloc _ _ _ (by simp)]; exact heap_alloc_new w _
  · rw [Below.heap_alloc _ _ _ (by simp), Below.heap_alloc _ _ _ (by simp)]
    have := heap_alloc_new (w.alloc (.cells #[pv] 22)) (.cells #[dv] 22)
    simpa using this
  · rw [Below.heap_alloc _ _ _ (by simp)]
    have := heap_alloc_new ((w.alloc (.cells #[pv] 22)).alloc (.cells #[dv] 22)) (.cells #[.int .i64 size] 3)
    simpa using this
  · have := heap_alloc_new (((w.alloc (.cells #[pv] 22)).alloc (.cells #[dv] 22)).alloc (.cells #[.int .i64 size] 3)) (.cells #[.int .i64 reps] 3)
    simpa using this

theorem Four.later {w W W' : World} {pv dv : Value} {size reps : Nat} (F : Four w W pv dv size reps) (O : Other [] W W') (hb : Below w.heap.size W W') : Four w W' pv dv size reps :=
  ⟨O _ _ _ (by decide) (by simp) F.hp, O _ _ _ (by decide) (by simp) F.hd, O _ _ _ (by decide) (by simp) F.hs, O _ _ _ (by decide) (by simp) F.hr, F.B.trans hb, Nat.le_trans F.N hb.size⟩

/-- What lies there ahead of the call of block. -/
structure Ahead (w W : World) (pv dv : Value) (size reps l1 : Nat) (xs : List Value) (eb bv : Nat) (v err : Value) : Prop where
  four : Four w W pv dv size reps
  he : W.heap[eb]? = some (.cells #[v, err] 35 (0, 0))
  hv : W.heap[bv]? = some (.cells #[.pointer (some ⟨eb, 0, none⟩)] 31 (0, 0))
  ho : W.ownsRow w.heap.size 5 1 v l1 xs
  hNe : w.heap.size ≤ eb

theorem Ahead.later {w W W' : World} {pv dv : Value} {size reps l1 : Nat} {xs : List Value} {eb bv : Nat} {v err : Value} (A : Ahead w W pv dv size reps l1 xs eb bv v err) (hb : Below W.heap.size W W') : Ahead w W' pv dv size reps l1 xs eb bv v err :=
  ⟨A.four.later (Other.below hb) (hb.mono (by have := A.four.N; omega)), (Other.below (L := []) hb) _ _ _ (by decide) (by simp) A.he, (Other.below (L := []) hb) _ _ _ (by decide) (by simp) A.hv, own_below A.ho hb, A.hNe⟩

theorem Ahead.setErr {w W : World} {pv dv : Value} {size reps l1 : Nat} {xs : List Value} {eb bv : Nat} {v err : Value} (A : Ahead w W pv dv size reps l1 xs eb bv v err) (x : Value) : Ahead w (W.setCell ⟨eb, 1, none⟩ x) pv dv size reps l1 xs eb bv v x := by
  have O : Other [eb] W (W.setCell ⟨eb, 1, none⟩ x) := Other.setCell _ _ _ (by simp)
  have hb : Below w.heap.size W (W.setCell ⟨eb, 1, none⟩ x) := (Below.refl _ W).setCell (p := ⟨eb, 1, none⟩) A.hNe _
  have nm : ∀ {j : Nat} {cs : Array Value} {t : TypeId}, W.heap[j]? = some (.cells cs t (0, 0)) → t ≠ 35 → j ∉ [eb] := fun h ht => by
    simp only [List.mem_singleton]
    exact ne_ty h A.he ht
  exact ⟨⟨O _ _ _ (by decide) (nm A.four.hp (by decide)) A.four.hp, O _ _ _ (by decide) (nm A.four.hd (by decide)) A.four.hd, O _ _ _ (by decide) (nm A.four.hs (by decide)) A.four.hs, O _ _ _ (by decide) (nm A.four.hr (by decide)) A.four.hr, A.four.B.trans hb, Nat.le_trans A.four.N hb.size⟩,
    two_set1 A.he, O _ _ _ (by decide) (nm A.hv (by decide)) A.hv, own_set A.ho (by decide) A.he _, A.hNe⟩

/-- The encoder and the variable that holds it have been made. -/
theorem ahead_made {w W4 w5 : World} {pv dv : Value} {size reps l1 : Nat} {xs : List Value} {v : Value} (F : Four w W4 pv dv size reps) (hg : W4.grownBy w5 none) (ho : w5.ownsRow w.heap.size 5 1 v l1 xs) :
    Ahead w ((w5.alloc (.cells #[v, .nilIface] 35)).alloc (.cells #[.pointer (some ⟨w5.heap.size, 0, none⟩)] 31)) pv dv size reps l1 xs w5.heap.size (w5.heap.size + 1) v .nilIface := by
  have hs := hg.size
  have h4 := F.N
  have b1 : Below w5.heap.size w5 ((w5.alloc (.cells #[v, .nilIface] 35)).alloc (.cells #[.pointer (some ⟨w5.heap.size, 0, none⟩)] 31)) := ((Below.refl _ w5).alloc (Nat.le_refl _) _).alloc (by simp) _
  refine ⟨(F.later (Other.grownNone hg) ((Below.refl _ W4).grown hg (by omega) (by simp))).later (Other.below b1) (b1.mono (by omega)), ?_, ?_, own_below ho b1, by omega⟩
  · rw [Below.heap_alloc _ _ _ (by simp)]; exact heap_alloc_new w5 _
  · have := heap_alloc_new (w5.alloc (.cells #[v, .nilIface] 35)) (.cells #[.pointer (some ⟨w5.heap.size, 0, none⟩)] 31)
    simpa using this

/-- The earlier error. -/
def Early (hasErr : Bool) (err : Value) : Prop := (hasErr = false ∧ err = .nilIface) ∨ (hasErr = true ∧ ∃ b, err = .iface 60 (.pointer (some b)))

theorem errnew (s : ByteArray) (w : World) : Calls Ybaf.prog 10 #[.string s] w fun e w' => ∃ b, e = .returned (.iface 60 (.pointer (some b))) ∧ Below w.heap.size w w' := by
  go_enter Ybaf.func10, Ybaf.ntmps10
  go_wp2
  go_ret
  exact ⟨_, rfl, (Below.refl _ w).alloc (Nat.le_refl _) _⟩

theorem three_made (w : World) : (((w.alloc (.cells #[.int .i64 0] 3)).alloc (.cells #[.bool true] 4)).alloc (.cells #[.bool true] 4)).heap[w.heap.size]? = some (.cells #[.int .i64 ((0 : Nat) : Int)] 3 (0, 0)) ∧
    (((w.alloc (.cells #[.int .i64 0] 3)).alloc (.cells #[.bool true] 4)).alloc (.cells #[.bool true] 4)).heap[w.heap.size + 1]? = some (.cells #[.bool true] 4 (0, 0)) ∧
    (((w.alloc (.cells #[.int .i64 0] 3)).alloc (.cells #[.bool true] 4)).alloc (.cells #[.bool true] 4)).heap[w.heap.size + 1 + 1]? = some (.cells #[.bool true] 4 (0, 0)) ∧
    Below w.heap.size w (((w.alloc (.cells #[.int .i64 0] 3)).alloc (.cells #[.bool true] 4)).alloc (.cells #[.bool true] 4)) := by
  refine ⟨?_, ?_, ?_, (((Below.refl _ w).alloc (Nat.le_refl _) _).alloc (by simp) _).alloc (by simp; omega) _⟩
  · rw [Below.heap_alloc _ _ _ (by simp; omega), Below.heap_alloc _ _ _ (by simp)]; exact heap_alloc_new w _
  · rw [Below.heap_alloc _ _ _ (by simp)]
    have := heap_alloc_new (w.alloc (.cells #[.int .i64 0] 3)) (.cells #[.bool true] 4)
    simpa using this
  · have := heap_alloc_new ((w.alloc (.cells #[.int .i64 0] 3)).alloc (.cells #[.bool true] 4)) (.cells #[.bool true] 4)
    simpa using this

/-- What lies there behind the call of block. -/
structure BlockDone (w w9 : World) (pv dv : Value) (size reps l1 l2 : Nat) (f1 f2 : Nat → Int) (hasErr : Bool) (eb bc : Nat) (v9 err err9 : Value) : Prop where
  rest : Rest w9 eb (eb + 1) (bc + 1) w.heap.size (w.heap.size + 1 + 1) (bc + 1 + 1) (w.heap.size + 1 + 1 + 1) (w.heap.size + 1) pv dv size reps
  hc : w9.heap[bc]? = some (.cells #[.int .i64 ((0 : Nat) + 1)] 3 (0, 0))
  he : w9.heap[eb]? = some (.cells #[v9, err9] 35 (0, 0))
  ho : w9.ownsRow w.heap.size 5 1 v9 (l1 + size + reps * l2) (cellsOf f1 l1 ++ (hdr (reps * l2) size ++ repl (cellsOf f2 l2) reps))
  B : Below w.heap.size w w9
  N : w.heap.size ≤ w9.heap.size
  errs : ErrIs err err9 (reps * l2 < lim size)
  early : Early hasErr err

/-- A part that is handed over: the walk does not look behind the name. -/
structure Box (p : Prop) : Prop where
  out : p

set_option maxRecDepth 100000 in
set_option maxHeartbeats 4000000 in
def frmA (F : Interp) (w : World) (a1 : Option Addr) (b1 o1 l1 c1 : Nat) (f1 : Nat → Int) (a2 : Option Addr) (b2 o2 l2 c2 : Nat) (f2 : Nat → Int) (sel rep : Int) (hasErr : Bool) (size reps : Nat)
    (hF : F.answers w.tape) (h1 : (l1 : Int) ≤ 1024) (h2 : (l2 : Int) ≤ 1024) (hs0 : 0 ≤ sel) (hs1 : sel ≤ 255) (hr0 : 0 ≤ rep) (hr1 : rep ≤ 255) (hs : sel % 9 = (size : Int)) (hr : rep % 8 + 1 = (reps : Int))
    (D1 : Hid (Bytes w a1 b1 o1 l1 f1)) (D2 : Hid (Bytes w a2 b2 o2 l2 f2)) (n1 : Hid (a1 = none → c1 = 0)) (n2 : Hid (a2 = none → c2 = 0)) (t1 : Hid (∀ i, i < l1 → b1 < w.heap.size)) (t2 : Hid (∀ i, i < l2 → b2 < w.heap.size)) :
    { P : Prop // Box P → Calls Ybaf.prog 5 #[.slice a1 l1 c1, .slice a2 l2 c2, .int .u8 sel, .int .u8 rep, .bool hasErr] w fun e w' => e = .returned (.bool true) ∧ Below w.heap.size w w' } := ⟨_, fun hA => by
  have dmy : Hid True := trivial
  have e1 := Int.tmod_eq_emod_of_nonneg (b := 9) hs0
  have e2 := Int.tmod_eq_emod_of_nonneg (b := 8) hr0
  go_enter Ybaf.func5, Ybaf.ntmps5
  go_upto_region 5 with fail
  obtain ⟨W4, hW4⟩ : ∃ W4, W4 = (((w.alloc (.cells #[.slice a1 l1 c1] 22)).alloc (.cells #[.slice a2 l2 c2] 22)).alloc (.cells #[.int .i64 size] 3)).alloc (.cells #[.int .i64 reps] 3) := ⟨_, rfl⟩
  have F4 : Four w W4 (.slice a1 l1 c1) (.slice a2 l2 c2) size reps := by rw [hW4]; exact four_made w _ _ size reps
  rw [← hW4]
  clear hW4
  obtain ⟨v5, w5, hrun, ho5, hg5⟩ := app_own (World.ownsRow_nil W4 w.heap.size 5 1) c1 (D1.out.later t1.out F4.B) n1.out 22 (by omega) (by have := F4.N; omega)
  rw [Nat.zero_add, List.nil_append] at ho5
  obtain ⟨av5, cv5, rfl, hmx5⟩ := own_form ho5
  have A6 := ahead_made F4 hg5 ho5
  have cp := cell_of_one F4.hp
  clear F4 hg5 ho5
  go_upto_if 46 with (at_builtin; refine Lib.wpList_append_run _ rfl _ _ _ _ rfl _ _ rfl rfl _ _ hrun ?_)
  go_cut [14] from 27 to 138 (fun early wx => ∃ err, early = err ∧ Early hasErr err ∧ Ahead w wx (.slice a1 l1 c1) (.slice a2 l2 c2) size reps l1 (cellsOf f1 l1) w5.heap.size (w5.heap.size + 1) (.slice av5 l1 cv5) err)
  case first =>
    cases hasErr
    · have A6' : Hid _ := A6
      clear A6
      go_wp2
      go_meet
      case rel => exact ⟨.nilIface, rfl, .inl ⟨rfl, rfl⟩, A6'.out⟩
    · go_wp2_with fail
      refine (errnew _ _).mono ?_
      rintro e w7 ⟨b, rfl, hb7⟩
      have A7 := A6.later hb7
      have cv7 := cell_of_one A7.hv
      have ce7 := (two_cells A7.he).2.1
      have ze7 := (two_cells A7.he).2.2.2
      have A8 : Hid _ := A7.setErr (.iface 60 (.pointer (some b)))
      clear A6 A7 hb7
      go_wp2
      go_meet
      case rel => exact ⟨_, rfl, .inr ⟨rfl, b, rfl⟩, A8.out⟩
  case rest =>
    obtain ⟨err, rfl, hee, A⟩ := hcut
    clear A6 cp hrun
    generalize w5.heap.size = eb at A ⊢
    have hmf : ∀ (fn : Fn) (first cap : Array Value) (wx : World), (Instr.makeFunc fn first cap).run Ybaf.prog wx = .ok (.func fn first cap) wx := fun _ _ _ _ => rfl
    have HA : Hid _ := A
    clear A
    go_upto_region 13 with fail
    obtain ⟨W8, hW8⟩ : ∃ W8, W8 = ((wc.alloc (.cells #[.int .i64 0] 3)).alloc (.cells #[.bool true] 4)).alloc (.cells #[.bool true] 4) := ⟨_, rfl⟩
    have T8 := three_made wc
    rw [← hW8] at T8 ⊢
    clear hW8
    have A8 := HA.out.later T8.2.2.2
    have hNb := HA.out.four.N
    have hb8 := T8.2.2.2.size
    have hFc := ansB T8.2.2.2 (ansB HA.out.four.B hF)
    have D28 := D2.out.later t2.out A8.four.B
    have E8 : Env W8 eb wc.heap.size (eb + 1) (wc.heap.size + 1) w.heap.size (w.heap.size + 1 + 1) (wc.heap.size + 1 + 1) (w.heap.size + 1 + 1 + 1) (w.heap.size + 1) (.slice a1 l1 c1) (.slice a2 l2 c2) size reps 0 :=
      ⟨A8.hv, T8.2.1, A8.four.hp, A8.four.hs, T8.2.2.1, A8.four.hr, A8.four.hd, T8.1, by omega, by omega⟩
    have cv8 := cell_of_one E8.hv
    have cs8 := cell_of_one E8.hs
    have hNc : w.heap.size ≤ wc.heap.size := by omega
    clear HA T8
    generalize wc.heap.size = bc at E8 hNc ⊢
    have herr : u14 = .nilIface ∨ ∃ b, u14 = .iface 60 (.pointer (some b)) := by
      rcases hee with ⟨_, h⟩ | ⟨_, h⟩
      · exact .inl h
      · exact .inr h
    have HC : Hid _ := block_any F W8 w.heap.size eb bc (eb + 1) (bc + 1) w.heap.size (w.heap.size + 1 + 1) (bc + 1 + 1) (w.heap.size + 1 + 1 + 1) (w.heap.size + 1) a1 l1 c1 a2 b2 o2 l2 c2 f2 size reps 0 (.slice av5 l1 cv5) u14 (cellsOf f1 l1)
      hFc (by omega) (by omega) (by omega) (by omega) (by omega) E8 A8.he A8.ho A8.hNe hNc D28 n2.out t2.out (by omega) herr
    have HS : Hid _ := And.intro E8 A8
    clear E8 A8 herr hNb hb8 D28 hFc hNc
    go_wp2_with fail
    refine Calls.mono HC.out ?_
    rintro e w9 ⟨rfl, v9, err9, A9, hE9⟩
    have HS2 : Hid (BlockDone w w9 (.slice a1 l1 c1) (.slice a2 l2 c2) size reps l1 l2 f1 f2 hasErr eb bc v9 u14 err9) := by
      obtain ⟨E8, A8⟩ := HS.out
      exact ⟨E8.rest A8.he A9.O, A9.hc, A9.he, A9.ho, A8.four.B.trans A9.B, A9.hN, hE9, hee⟩
    clear HS HC A9 hE9 hee cv8 cs8 hmf
    revert u14 u27 u28 u29 u30 u31 u32 u33 u34 u35 u36 u37 u38 u39 u40 u41 u42 u43 u44 u45 u46 u47 u48 u49 u50 u51 u52 u53 u54 u55 u56 u57 u58 u59 u60 u61 u62 u63 u64 u65 u66 u67 u68 u69 u70 u71 u72 u73 u74 u75 u76 u77 u78 u79 u80 u81 u82 u83 u84 u85 u86 u87 u88 u89 u90 u91 u92 u93 u94 u95 u96 u97 u98 u99 u100 u101 u102 u103 u104 u105 u106 u107 u108 u109 u110 u111 u112 u113 u114 u115 u116 u117 u118 u119 u120 u121 u122 u123 u124 u125 u126 u127 u128 u129 u130 u131 u132 u133 u134 u135 u136 u137 u138
    repeat revert ‹Act → World → Prop›
    repeat (first | clear ‹Exit → Act → World → Prop› | revert ‹Exit → Act → World → Prop›)
    revert w9 v9 err9 eb bc
    revert dmy
    exact hA.out⟩

end Go.Proofs.YbulkacdsFmt
