/- LawS1409ARoundTrip: the walk, the decoding. -/
import Derived.Test.YbulkacdsFmtTripA
import Derived.BigQuiet
set_option linter.unusedVariables false
set_option linter.unusedSimpArgs false
namespace Go.Proofs.YbulkacdsFmt
open Go.RowKit Go.Extern.Stop Go.Stop Go.Extern

theorem dc_made {w : World} {N eb g n cap : Nat} {xs : List Value} (E : Enc w N eb (.slice (some ⟨g, 0, none⟩) n cap) n xs) : Dc (w.alloc (.cells #[.slice (some ⟨g, 0, none⟩) n cap, .nilIface] 41)) w.heap.size g xs ∧ g < w.heap.size := by
  have hl := E.ho.1
  rcases E.ho.2 with ⟨h, _⟩ | ⟨g', cap', cur, h, _, hg, hnc, hcm, _, _⟩
  · cases h
  · simp only [Value.slice.injEq, Option.some.injEq, Addr.mk.injEq, and_true, true_and] at h
    obtain ⟨rfl, rfl⟩ := h
    have lg := lt_of_block hg
    have hg' : (w.alloc (.cells #[.slice (some ⟨g, 0, none⟩) n cap, .nilIface] 41)).heap[g]? = some (.cells cur 5 (0, 0)) := by rw [Below.heap_alloc _ _ _ lg]; exact hg
    have hln : xs.length = n := by omega
    refine ⟨⟨⟨0, cap, ?_, by omega, hcm, fun j hj => ?_⟩, cur, hg'⟩, lg⟩
    · rw [hln]; exact heap_alloc_new w _
    · rw [Nat.zero_add, World.cell?_of_block (w := w) (a := ⟨g, j, none⟩) (hg'.trans hg.symm)]
      exact E.ho.cellAt j (by omega)

theorem own22_at {w : World} {B n : Nat} {v : Value} {xs : List Value} (ho : w.ownsRow B 22 1 v n xs) (h0 : 0 < n) : ∃ G, (∃ c, v = .slice (some ⟨G, 0, none⟩) n c) ∧ ∀ k, k < n → w.cell? ⟨G, k, none⟩ = xs[k]? := by
  rcases ho.2 with ⟨_, h⟩ | ⟨g, cap, cur, rfl, _⟩
  · omega
  · exact ⟨g, ⟨cap, rfl⟩, fun k hk => ho.cellAt k (by omega)⟩

theorem own22_mono {w : World} {B B' n : Nat} {v : Value} {xs : List Value} (ho : w.ownsRow B 22 1 v n xs) (h : B' ≤ B) : w.ownsRow B' 22 1 v n xs := by
  obtain ⟨h1, h2⟩ := ho
  refine ⟨h1, ?_⟩
  rcases h2 with h2 | ⟨g, cap, cur, hv, hg, r⟩
  · exact .inl h2
  · exact .inr ⟨g, cap, cur, hv, Nat.le_trans h hg, r⟩

theorem Out.dN {w : World} {g : Nat} {v : Value} {bs : List Value} (h : Out w g v bs) (n : Nat) : Out (w.drewN n) g v bs := h.keep (L := []) (Only.of (bel_dN n)) (by simp)
theorem Bytes.dN {w : World} {a : Option Addr} {b o l : Nat} {f : Nat → Int} (h : Bytes w a b o l f) (n : Nat) : Bytes (w.drewN n) a b o l f := h

/-- What lies there behind the decoding. -/
structure DecDone (w W : World) (l : Nat) (cl : Nat → Nat) (cf : Nat → Nat → Int) (ha sa ty sha : Int) (lh : Nat) (fh : Nat → Int) (lv : Nat) (fv : Nat → Int) (db g R : Nat) (rc : Value) (os : List Value) (sha' : Int) (sh vv : Value) : Prop where
  hR : W.heap[R]? = some (.cells #[rc, .int .u8 ha, .int .u8 sa, .int .u8 ty, .int .u8 sha', sh, vv] 30 (0, 0))
  D : Dc W db g []
  ho : W.ownsRow w.heap.size 22 1 rc l os
  U : Outs W g cl cf l os
  UV : Out W g vv (cellsOf fv lv)
  q3 : ty = 3 → sha' = 0 ∧ sh = .slice none 0 0
  q4 : ty ≠ 3 → sha' = sha ∧ Out W g sh (cellsOf fh lh)
  B : Below w.heap.size w W

set_option maxRecDepth 100000 in
set_option maxHeartbeats 4000000 in
theorem trpB (w : World) (a : Option Addr) (b o l c : Nat) (ca : Nat → Option Addr) (cb co cl cc : Nat → Nat) (cf : Nat → Nat → Int) (ha sa typ sha ty : Int) (ah : Option Addr) (bh oh lh ch : Nat) (fh : Nat → Int) (av : Option Addr) (bv ov lv cv : Nat) (fv : Nat → Int)
    (hl : (l : Int) ≤ 1024) (hlh : (lh : Int) ≤ 70000) (hlv : (lv : Int) ≤ 70000) (hlc : (lh : Int) ≤ (ch : Int)) (hvc : (lv : Int) ≤ (cv : Int)) (hch : (ch : Int) ≤ 9223372036854775807) (hcv : (cv : Int) ≤ 9223372036854775807) (ht0 : 0 ≤ typ) (ht1 : typ ≤ 255) (hty : typ % 3 + 1 = ty)
    (C : Hid (Craw w a b o l ca cb co cl cc cf)) (I : Hid (In w w.heap.size ah bh oh lh ch fh)) (J : Hid (In w w.heap.size av bv ov lv cv fv)) : (trpA w a b o l c ca cb co cl cc cf ha sa typ sha ty ah bh oh lh ch fh av bv ov lv cv fv hl hlh hlv hlc hvc hch hcv ht0 ht1 hty C I J).1 := by
  intro dmy
  set_option tactic.hygienic false in intros
  have D0 := HD.out
  have hty3 : ty = 1 ∨ ty = 2 ∨ ty = 3 := by omega
  obtain ⟨g, cap, hv3⟩ := own_some D0.E.ho (by omega)
  subst hv3
  have ce0 := (two_cells D0.E.he).1
  have ce1 := (two_cells D0.E.he).2.1
  obtain ⟨D1, lg⟩ := dc_made D0.E
  rw [sec_form] at D1
  have hT := D0.T
  have hN3 : w.heap.size ≤ w3.heap.size := D0.B.size
  have HC : Hid _ := rd_sec _ w3.heap.size g l cl cf ha sa ty sha (cellsOf fh lh') (cellsOf fv lv') (by omega) (fun i hi => ((C.out.certs hT).at_ i hi).2.2.2) hT (certBytes_length cl cf l) hty3 (by rw [cellsOf_length]; exact D0.h) (by rw [cellsOf_length]; exact D0.v) D1
  have HX : Hid _ := And.intro D0.B (And.intro hN3 lg)
  clear D1 hT D0 lg
  generalize hnn : 2 + certLen cl l + sigLen ty lh' lv' = nn at ce0 HC ⊢
  clear hnn HD
  go_wp2_with fail
  refine Calls.mono HC.out ?_
  rintro e w5 ⟨rc, os, sha', sh, vv, rfl, ho5, U5, UV5, q3, q4, D5, O5⟩
  obtain ⟨ar, cr, rfl, _⟩ := own22_form ho5
  have shf : ∃ a n c, sh = .slice a n c := by
    by_cases h3 : ty = 3
    · exact ⟨_, _, _, (q3 h3).2⟩
    · obtain ⟨o6, h6, -⟩ := (q4 h3).2.ex
      exact ⟨_, _, _, h6⟩
  obtain ⟨ash, nsh, csh, rfl⟩ := shf
  obtain ⟨ov5, hvf, -⟩ := UV5.ex
  subst hvf
  have b6 : Below w5.heap.size w5 (w5.alloc (.cells #[.slice ar l cr, .int .u8 ha, .int .u8 sa, .int .u8 ty, .int .u8 sha', .slice ash nsh csh, .slice (some ⟨g, ov5, none⟩) (cellsOf fv lv').length (cellsOf fv lv').length] 30)) := (Below.refl _ w5).alloc (Nat.le_refl _) _
  have o6 : Only [] w5 _ := Only.of b6
  have DD : DecDone w (w5.alloc (.cells #[.slice ar l cr, .int .u8 ha, .int .u8 sa, .int .u8 ty, .int .u8 sha', .slice ash nsh csh, .slice (some ⟨g, ov5, none⟩) (cellsOf fv lv').length (cellsOf fv lv').length] 30)) l cl cf ha sa ty sha lh' fh lv' fv w3.heap.size g w5.heap.size (.slice ar l cr) os sha' (.slice ash nsh csh) (.slice (some ⟨g, ov5, none⟩) (cellsOf fv lv').length (cellsOf fv lv').length) :=
    ⟨heap_alloc_new w5 _, D5.keep o6 (by simp) (by simp), own22_only (own22_mono ho5 (by simp; omega)) o6 (fun x hx => by cases hx), U5.keep o6 (by simp), UV5.keep o6 (by simp), q3, fun h => ⟨(q4 h).1, (q4 h).2.keep o6 (by simp)⟩,
      ((HX.out.1.alloc HX.out.2.1 _).trans (O5.below (B := w.heap.size) (fun x hx => by simp only [List.mem_singleton] at hx; omega) (by simp; omega))).trans (b6.mono (Nat.le_trans (Nat.le_trans HX.out.2.1 (by simp)) O5.size))⟩
  obtain ⟨W6, hW6⟩ : ∃ W6, W6 = w5.alloc (.cells #[.slice ar l cr, .int .u8 ha, .int .u8 sa, .int .u8 ty, .int .u8 sha', .slice ash nsh csh, .slice (some ⟨g, ov5, none⟩) (cellsOf fv lv').length (cellsOf fv lv').length] 30) := ⟨_, rfl⟩
  rw [← hW6] at DD
  obtain ⟨od, cd, hd6, -⟩ := DD.D.ex
  obtain ⟨k0, k1, -⟩ := two_cells hd6
  rw [List.length_nil] at k0
  have r0 := (seven0 DD.hR).1
  have HDD : Hid _ := DD
  clear HC HX ho5 U5 UV5 q3 q4 D5 O5 b6 o6 DD hd6 ce0 ce1
  go_upto_region 26 with fail
  rw [← hW6]
  clear hW6
  generalize w5.heap.size = R at HDD r0 ⊢
  generalize w3.heap.size = db at HDD k0 k1 ⊢
  go_wp2_with fail
  clear k0 k1
  have hTc : certLen cl l ≤ 65535 ∨ True := .inr trivial
  go_loopw [24] (fun i wr => ∃ k m : Nat, k ≤ l ∧ i = .int .i64 k ∧ wr = W6.drewN m) (fun i _ => l - (intOf i).toNat)
  case atStart => exact ⟨0, 0, Nat.zero_le _, rfl, rfl⟩
  case round =>
    obtain ⟨k, m, hk, rfl, rfl⟩ := hrel
    by_cases hlt : k < l
    · have DD := HDD.out
      obtain ⟨G, ⟨cG, hG⟩, hGk⟩ := own22_at DD.ho (by omega)
      obtain ⟨rfl, rfl⟩ : ar = some ⟨G, 0, none⟩ ∧ cr = cG := by simpa using hG
      obtain ⟨u, hu⟩ : ∃ u, os[k]? = some u := ⟨_, List.getElem?_eq_getElem (by have := DD.U.1; omega)⟩
      have hGc := (hGk k hlt).trans hu
      have Uk := DD.U.2 k u hu
      obtain ⟨ou, huf, -⟩ := Uk.ex
      subst huf
      have Ck := C.out.at_ k hlt
      obtain ⟨rfl, hcc, Ik⟩ := Ck
      have lb := C.out.lt k hlt
      have hcW : W6.cell? ⟨b, o + k, none⟩ = some (.slice (ca k) (cl k) (cc k)) := (DD.B.cell (p := ⟨b, o + k, none⟩) lb).trans hcc
      have IkW := Ik.later DD.B
      have HU : Hid (Out (W6.drewN m) g _ (cellsOf (cf k) (cl k)) ∧ Bytes (W6.drewN m) (ca k) (cb k) (co k) (cl k) (cf k)) := ⟨Uk.dN m, IkW.B.dN m⟩
      have q0 : (W6.drewN m).cell? ⟨R, 0, none⟩ = some (.slice (some ⟨G, 0, none⟩) l cr) := r0
      have q1 : (W6.drewN m).cell? ⟨G, k, none⟩ = some (.slice (some ⟨g, ou, none⟩) (cellsOf (cf k) (cl k)).length (cellsOf (cf k) (cl k)).length) := hGc
      have q2 : (W6.drewN m).cell? ⟨b, o + k, none⟩ = some (.slice (ca k) (cl k) (cc k)) := hcW
      clear DD hG hGk hu Uk hcc Ik IkW HDD r0 hGc hcW
      have hend : Hid (∀ n, (W6.drewN m).drewN n = W6.drewN (m + n)) := fun n => World.drewN_drewN _ _ _
      generalize W6.drewN m = Wm at HU q0 q1 q2 hend ⊢
      have HQ : Hid (∀ n, Calls Ybaf.prog 8 #[.slice (some ⟨g, ou, none⟩) (cellsOf (cf k) (cl k)).length (cellsOf (cf k) (cl k)).length, .slice (ca k) (cl k) (cc k)] (Wm.drewN n) fun e w' => e = .returned (.bool true) ∧ w' = Wm.drewN n) := fun n => eq_any _ _ _ _ _ _ _ _ (conv_out (HU.out.1.dN n)) (conv_in _ (HU.out.2.dN n))
      clear HU
      go_wp2_with fail
      go_quiet ((go_at_call 8; exact Calls.quiet_of_same (HQ.out _)))
      go_wp2
      exact ⟨⟨k + 1, m + nq, by omega, by go_num, hend.out nq⟩, by simp [intOf]; omega⟩
    · obtain rfl : l = k := by omega
      have DD := HDD.out
      have o7 : Only [] W6 (W6.drewN m) := Only.of (bel_dN m)
      have hR7 := o7.at (by simp) DD.hR
      have UV7 := DD.UV.keep o7 (by simp)
      have q3 := DD.q3
      have q47 : ty ≠ 3 → sha' = sha ∧ Out (W6.drewN m) g (.slice ash nsh csh) (cellsOf fh lh') := fun h => ⟨(DD.q4 h).1, (DD.q4 h).2.keep o7 (by simp)⟩
      have B7 : Below w.heap.size w (W6.drewN m) := DD.B.trans (bel_dN m)
      clear HDD DD o7 r0
      generalize W6.drewN m = Wm at hR7 UV7 q47 B7 ⊢
      obtain ⟨p0, p1, p2, p3, p4, p5, p6, -⟩ := seven hR7
      have b8 : Below Wm.heap.size Wm (Wm.alloc (.cells #[.int .u8 ha, .int .u8 sa, .int .u8 ty, .int .u8 sha', .slice ash nsh csh, .slice (some ⟨g, ov5, none⟩) (cellsOf fv lv').length (cellsOf fv lv').length] 28)) := (Below.refl _ Wm).alloc (Nat.le_refl _) _
      have B8 := B7.trans (b8.mono B7.size)
      have UV8 := UV7.keep (Only.of (L := []) b8) (by simp)
      have q48 : ty ≠ 3 → sha' = sha ∧ Out (Wm.alloc (.cells #[.int .u8 ha, .int .u8 sa, .int .u8 ty, .int .u8 sha', .slice ash nsh csh, .slice (some ⟨g, ov5, none⟩) (cellsOf fv lv').length (cellsOf fv lv').length] 28)) g (.slice ash nsh csh) (cellsOf fh lh') := fun h => ⟨(q47 h).1, (q47 h).2.keep (Only.of (L := []) b8) (by simp)⟩
      have HCv : Hid _ := eq_any _ _ _ _ _ _ _ _ (conv_out UV8) (conv_in cv ((J.out.less HL.out.2).later B8).B)
      have Ih8 := ((I.out.less HL.out.1).later B8).B
      have HX8 : Hid _ := And.intro B8 (And.intro q3 (And.intro q48 Ih8))
      clear hR7 UV7 q47 B7 b8 B8 UV8 q48 q3 Ih8
      go_wp2_with fail
      refine Calls.mono HCv.out ?_
      rintro e w9 ⟨rfl, rfl⟩
      clear HCv
      obtain ⟨B8, q3, q48, Ih8⟩ := HX8.out
      have HB8 : Hid _ := B8
      by_cases h3 : ty = 3
      · obtain ⟨hs0, hsl⟩ := q3 h3
        obtain ⟨rfl, rfl, rfl⟩ : ash = none ∧ nsh = 0 ∧ csh = 0 := by simpa using hsl
        subst hs0
        subst h3
        clear q3 q48 Ih8 B8 hsl HX8
        go_wp2
        go_ret
        exact ⟨rfl, HB8.out⟩
      · obtain ⟨hs0, hsl⟩ := q48 h3
        subst hs0
        have h3' : (ty == 3) = false := by rw [beq_eq_false_iff_ne]; exact h3
        have HCh : Hid _ := eq_any _ _ _ _ _ _ _ _ (conv_out hsl) (conv_in ch Ih8)
        clear q3 q48 Ih8 B8 hsl HX8
        go_wp2_with fail
        refine Calls.mono HCh.out ?_
        rintro e w10 ⟨rfl, rfl⟩
        clear HCh
        go_wp2
        go_ret
        exact ⟨rfl, HB8.out⟩
end Go.Proofs.YbulkacdsFmt
