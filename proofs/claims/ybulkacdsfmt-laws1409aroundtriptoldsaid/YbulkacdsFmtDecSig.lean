/- decodeSignature by its contract. -/
import Derived.Test.YbulkacdsFmtDecode3
import Derived.Deep.Cut
set_option linter.unusedVariables false
set_option linter.unusedSimpArgs false
namespace Go.Proofs.YbulkacdsFmt
open Go.RowKit Go.Extern.Stop Go.Stop Go.Extern

/-- The cells of a block of six. -/
theorem six {w : World} {b : Nat} {x0 x1 x2 x3 x4 x5 : Value} {t : TypeId} (h : w.heap[b]? = some (.cells #[x0, x1, x2, x3, x4, x5] t (0, 0))) :
    (w.cell? ⟨b, 0, none⟩ = some x0 ∧ w.cell? ⟨b, 1, none⟩ = some x1 ∧ w.cell? ⟨b, 2, none⟩ = some x2 ∧ w.cell? ⟨b, 3, none⟩ = some x3 ∧ w.cell? ⟨b, 4, none⟩ = some x4 ∧ w.cell? ⟨b, 5, none⟩ = some x5) ∧
    (w.frozen? ⟨b, 0, none⟩ = false ∧ w.frozen? ⟨b, 1, none⟩ = false ∧ w.frozen? ⟨b, 2, none⟩ = false ∧ w.frozen? ⟨b, 3, none⟩ = false ∧ w.frozen? ⟨b, 4, none⟩ = false ∧ w.frozen? ⟨b, 5, none⟩ = false) := by
  simp [World.cell?, World.frozen?, h]

theorem Only.rdrew {L : List Nat} {a b : World} (h : Only L a b) : Only L a b.drew := ⟨h.os, h.tape, h.output, h.size, h.block⟩

/-- Midway in decodeSignature. -/
structure SigAt (w wx : World) (db g S : Nat) (ys : List Value) (cs : Array Value) : Prop where
  D : Dc wx db g ys
  hS : wx.heap[S]? = some (.cells cs 28 (0, 0))
  hR : wx.heap[w.heap.size]? = some (.cells #[.int .u8 0, .int .u8 0, .int .u8 0, .int .u8 0, .slice none 0 0, .slice none 0 0] 28 (0, 0))
  O : Only [S, db] w wx
  ldb : db < w.heap.size
  lg : g < w.heap.size
  lS : w.heap.size < S

theorem SigAt.set {w wx : World} {db g S : Nat} {ys : List Value} {cs : Array Value} (P : SigAt w wx db g S ys cs) (j : Nat) (v : Value) : SigAt w (wx.setCell ⟨S, j, none⟩ v) db g S ys (cs.setIfInBounds j v) := by
  have h1 := P.ldb
  have h2 := P.lg
  have h3 := P.lS
  have o : Only [S] wx (wx.setCell ⟨S, j, none⟩ v) := (Only.refl _ wx).setCell _ (by simp) _
  exact ⟨P.D.keep o (by simp only [List.mem_singleton]; omega) (by simp only [List.mem_singleton]; omega), heap_setCell_same wx S j cs 28 v P.hS, o.at (by simp only [List.mem_singleton]; omega) P.hR, P.O.setCell _ (by simp) _, h1, h2, h3⟩

theorem SigAt.call {w wx wy : World} {db g S : Nat} {ys zs : List Value} {cs : Array Value} (P : SigAt w wx db g S ys cs) (o : Only [db] wx wy) (D : Dc wy db g zs) : SigAt w wy db g S zs cs := by
  have h1 := P.ldb
  have h2 := P.lg
  have h3 := P.lS
  exact ⟨D, o.at (by simp only [List.mem_singleton]; omega) P.hS, o.at (by simp only [List.mem_singleton]; omega) P.hR, P.O.trans (o.mono (by simp)), h1, h2, h3⟩

theorem SigAt.side {w wx wy : World} {db g S d2 : Nat} {ys : List Value} {cs : Array Value} (P : SigAt w wx db g S ys cs) (o : Only [d2] wx wy) (hd : S < d2) : SigAt w wy db g S ys cs := by
  have h1 := P.ldb
  have h2 := P.lg
  have h3 := P.lS
  have o' : Only [d2, S, db] w wy := (P.O.mono (by simp)).trans (o.mono (by simp))
  exact ⟨P.D.keep o (by simp only [List.mem_singleton]; omega) (by simp only [List.mem_singleton]; omega), o.at (by simp only [List.mem_singleton]; omega) P.hS, o.at (by simp only [List.mem_singleton]; omega) P.hR, o'.fresh (by omega), h1, h2, h3⟩

theorem six_only {w wx : World} {L : List Nat} (h : Only L w wx) (R : Nat) (hR : R ∈ L) (x0 x1 x2 x3 x4 x5 : Value) : Only L w ((((((wx.setCell ⟨R, 0, none⟩ x0).setCell ⟨R, 1, none⟩ x1).setCell ⟨R, 2, none⟩ x2).setCell ⟨R, 3, none⟩ x3).setCell ⟨R, 4, none⟩ x4).setCell ⟨R, 5, none⟩ x5) :=
  (((((h.setCell _ hR _).setCell _ hR _).setCell _ hR _).setCell _ hR _).setCell _ hR _).setCell _ hR _

set_option maxHeartbeats 4000000 in
theorem rd_sig (w : World) (db g : Nat) (ha sa ty sha : Int) (hs vs ys : List Value) (hty : ty = 1 ∨ ty = 2 ∨ ty = 3) (hh : hs.length ≤ 255) (hv : vs.length ≤ 65535)
    (D : Dc w db g (.int .u8 ha :: .int .u8 sa :: .int .u8 ty :: (hdr (if ty = 3 then 0 else 1 + 1 + hs.length) 2 ++ ((if ty = 3 then [] else .int .u8 sha :: (hdr hs.length 1 ++ (hs ++ []))) ++ (hdr vs.length 2 ++ (vs ++ ys)))))) :
    Calls Ybaf.prog 25 #[.pointer (some ⟨db, 0, none⟩)] w fun e w' => ∃ sha' sh vv, e = .returned (.agg #[.int .u8 ha, .int .u8 sa, .int .u8 ty, .int .u8 sha', sh, vv]) ∧ Out w' g vv vs ∧ (ty = 3 → sha' = 0 ∧ sh = .slice none 0 0) ∧ (ty ≠ 3 → sha' = sha ∧ Out w' g sh hs) ∧ Dc w' db g ys ∧ Only [db] w w' := by
  have ldb : db < w.heap.size := by obtain ⟨_, _, h, _⟩ := D.ex; exact lt_of_block h
  have lg : g < w.heap.size := by obtain ⟨_, h⟩ := D.row; exact lt_of_block h
  have b0 : Below w.heap.size w (w.alloc (.cells #[.int .u8 0, .int .u8 0, .int .u8 0, .int .u8 0, .slice none 0 0, .slice none 0 0] 28)) := (Below.refl _ w).alloc (Nat.le_refl _) _
  have O0 : Only [db] w _ := Only.of b0
  have D0 := D.keep (Only.of (L := []) b0) (by simp) (by simp)
  have hR0 : (w.alloc (.cells #[.int .u8 0, .int .u8 0, .int .u8 0, .int .u8 0, .slice none 0 0, .slice none 0 0] 28)).heap[w.heap.size]? = _ := heap_alloc_new w _
  have HC0 : Hid _ := rd_u8 _ db g _ _ D0
  have HX0 : Hid _ := And.intro O0 hR0
  clear D b0 O0 D0 hR0
  go_enter Ybaf.func25, Ybaf.ntmps25
  go_wp2_with fail
  refine Calls.mono HC0.out ?_
  rintro e w1 ⟨rfl, D1, O1⟩
  obtain ⟨O0, hR0⟩ := HX0.out
  have hz1 : w.heap.size + 1 ≤ w1.heap.size := by have := O1.size; simpa using this
  have HC1 : Hid _ := rd_u8 w1 db g _ _ D1
  have HX1 : Hid _ := And.intro (O0.trans O1) (O1.at (by simp only [List.mem_singleton]; omega) hR0)
  clear HC0 HX0 D1 O1 O0 hR0
  go_wp2_with fail
  refine Calls.mono HC1.out ?_
  rintro e w2 ⟨rfl, D2, O2⟩
  obtain ⟨O1, hR1⟩ := HX1.out
  have b2 : Below w2.heap.size w2 (w2.alloc (.cells #[.int .u8 ha, .int .u8 sa, .int .u8 0, .int .u8 0, .slice none 0 0, .slice none 0 0] 28)) := (Below.refl _ w2).alloc (Nat.le_refl _) _
  have hsz : w.heap.size < w2.heap.size := Nat.le_trans hz1 O2.size
  have P3 : SigAt w (w2.alloc (.cells #[.int .u8 ha, .int .u8 sa, .int .u8 0, .int .u8 0, .slice none 0 0, .slice none 0 0] 28)) db g w2.heap.size _ #[.int .u8 ha, .int .u8 sa, .int .u8 0, .int .u8 0, .slice none 0 0, .slice none 0 0] :=
    ⟨D2.keep (Only.of (L := []) b2) (by simp) (by simp), heap_alloc_new w2 _, (Only.of (L := []) b2).at (by simp) (O2.at (by simp only [List.mem_singleton]; omega) hR1), ((O1.trans O2).mono (by simp)).trans (Only.of b2), ldb, lg, hsz⟩
  have HC2 : Hid _ := rd_u8 _ db g _ _ P3.D
  have HX2 : Hid _ := P3
  clear HC1 HX1 D2 O2 O1 hR1 b2 P3 hz1
  go_wp2_with fail
  refine Calls.mono HC2.out ?_
  rintro e w4 ⟨rfl, D4, O4⟩
  have P4 := HX2.out.call O4 D4
  clear HC2 HX2 D4 O4
  generalize w2.heap.size = S at P4 hsz ⊢
  obtain ⟨⟨-, -, c2, -⟩, -, -, z2, -⟩ := six P4.hS
  have P5 := P4.set 2 (.int .u8 ty)
  have hM : (if ty = 3 then 0 else 1 + 1 + hs.length) < 65536 := by split <;> omega
  have hB : (if ty = 3 then ([] : List Value) else .int .u8 sha :: (hdr hs.length 1 ++ (hs ++ []))).length = (if ty = 3 then 0 else 1 + 1 + hs.length) := by
    split
    · rfl
    · simp [hdr_length]; omega
  have HC5 : Hid _ := rd_block _ db g _ _ _ hM hB P5.D
  have HX5 : Hid _ := P5
  clear P4 P5 hM hB
  go_wp2_with fail
  refine Calls.mono HC5.out ?_
  rintro e w6 ⟨d2, rfl, hd2, Db, D6, O6⟩
  have P6 := HX5.out.call O6 D6
  have hSd : S < d2 := Nat.lt_of_lt_of_le (lt_of_block HX5.out.hS) hd2
  clear HC5 HX5 D6 O6 hd2 c2 z2
  rcases hty with rfl | rfl | rfl
  · simp only [show ¬ ((1 : Int) = 3) by decide, if_false] at Db
    obtain ⟨⟨-, -, k2, k3, -⟩, -, -, -, y3, -⟩ := six P6.hS
    have HC6 : Hid _ := rd_u8 w6 d2 g _ _ Db
    have HX6 : Hid _ := P6
    clear Db P6
    go_wp2_with fail
    refine Calls.mono HC6.out ?_
    rintro e w7 ⟨rfl, Db7, O7⟩
    have P7 := HX6.out.side O7 hSd
    obtain ⟨⟨-, -, -, m3, -⟩, -, -, -, x3, -⟩ := six P7.hS
    have P8 := P7.set 3 (.int .u8 sha)
    have Db8 := Db7.keep ((Only.refl [S] w7).setCell ⟨S, 3, none⟩ (by simp) (.int .u8 sha)) (by simp only [List.mem_singleton]; omega) (by simp only [List.mem_singleton]; omega)
    have HC8 : Hid _ := rd_opq1 _ d2 g hs.length hs [] (by omega) rfl Db8
    have HX8 : Hid _ := P8
    clear HC6 HX6 Db7 O7 P7 P8 Db8 k2 k3 y3
    go_wp2_with fail
    refine Calls.mono HC8.out ?_
    rintro e w9 ⟨v9, rfl, U9, Db9, O9⟩
    have P9 := HX8.out.side O9 hSd
    obtain ⟨o9, rfl, hr9⟩ := U9.ex
    obtain ⟨⟨-, -, -, -, m4, -⟩, -, -, -, -, x4, -⟩ := six P9.hS
    have so : Only [S] w9 (w9.setCell ⟨S, 4, none⟩ (.slice (some ⟨g, o9, none⟩) hs.length hs.length)) := (Only.refl [S] w9).setCell ⟨S, 4, none⟩ (by simp) _
    have P10 := P9.set 4 (.slice (some ⟨g, o9, none⟩) hs.length hs.length)
    have Db10 := Db9.keep so (by simp only [List.mem_singleton]; omega) (by simp only [List.mem_singleton]; omega)
    have U10 := U9.keep so (by simp only [List.mem_singleton]; omega)
    have HC10 : Hid _ := rd_end _ d2 g Db10
    have HX10 : Hid _ := And.intro P10 U10
    clear HC8 HX8 U9 Db9 O9 P9 hr9 so P10 Db10 U10 m3 x3
    go_wp2_with fail
    refine Calls.mono HC10.out ?_
    rintro e w10 ⟨rfl, rfl⟩
    have HC11 : Hid _ := rd_fail _ db g _ HX10.out.1.D
    clear HC10 m4 x4
    go_wp2_with fail
    refine Calls.mono HC11.out ?_
    rintro e w11 ⟨rfl, D11, O11⟩
    have P11 := HX10.out.1.call O11 D11
    have U11 := HX10.out.2.keep O11 (by simp only [List.mem_singleton]; have := P11.D.ne; omega)
    have HC12 : Hid _ := rd_opq2 w11 db g vs.length vs ys (by omega) rfl P11.D
    have HX11 : Hid _ := And.intro P11 U11
    clear HC11 HX10 D11 O11 P11 U11
    go_wp2_with fail
    refine Calls.mono HC12.out ?_
    rintro e w12 ⟨v12, rfl, U12, D12, O12⟩
    have P12 := HX11.out.1.call O12 D12
    have U12' := HX11.out.2.keep O12 (by simp only [List.mem_singleton]; have := P12.D.ne; omega)
    obtain ⟨o12, rfl, hr12⟩ := U12.ex
    obtain ⟨⟨-, -, -, -, -, m5⟩, -, -, -, -, -, x5⟩ := six P12.hS
    have so : Only [S] w12 (w12.setCell ⟨S, 5, none⟩ (.slice (some ⟨g, o12, none⟩) vs.length vs.length)) := (Only.refl [S] w12).setCell ⟨S, 5, none⟩ (by simp) _
    have P13 := P12.set 5 (.slice (some ⟨g, o12, none⟩) vs.length vs.length)
    obtain ⟨w13, hw13⟩ : ∃ w13, w13 = w12.setCell ⟨S, 5, none⟩ (.slice (some ⟨g, o12, none⟩) vs.length vs.length) := ⟨_, rfl⟩
    rw [← hw13] at so P13
    have UA := U12.keep so (by simp only [List.mem_singleton]; omega)
    have UB := U12'.keep so (by simp only [List.mem_singleton]; omega)
    clear HC12 HX11 U12 D12 O12 P12 U12' hr12 so
    have FIN : Hid _ := And.intro P13 (And.intro UA UB)
    clear P13 UA UB
    go_upto_region 13 with fail
    rw [← hw13]
    clear hw13 m5 x5
    obtain ⟨P13, UA, UB⟩ := FIN.out
    obtain ⟨⟨t0, t1, t2, t3, t4, t5⟩, -⟩ := six (x0 := .int .u8 ha) (x1 := .int .u8 sa) (x2 := .int .u8 1) (x3 := .int .u8 sha) (x4 := .slice (some ⟨g, o9, none⟩) hs.length hs.length) (x5 := .slice (some ⟨g, o12, none⟩) vs.length vs.length) P13.hS
    obtain ⟨⟨r0, r1, r2, r3, r4, r5⟩, q0, q1, q2, q3, q4, q5⟩ := six P13.hR
    clear P13 UA UB
    go_wp2
    obtain ⟨P13, UA, UB⟩ := FIN.out
    have o14 := six_only (Only.refl [w.heap.size] w13) w.heap.size (by simp) (.int .u8 ha) (.int .u8 sa) (.int .u8 1) (.int .u8 sha) (.slice (some ⟨g, o9, none⟩) hs.length hs.length) (.slice (some ⟨g, o12, none⟩) vs.length vs.length)
    have oA : Only [w.heap.size, S, db] w _ := (P13.O.mono (by simp)).trans (o14.mono (by simp))
    have oB : Only [S, db] w _ := oA.fresh (Nat.le_refl _)
    refine bodyPost_ret (v := .agg #[.int .u8 ha, .int .u8 sa, .int .u8 1, .int .u8 sha, .slice (some ⟨g, o9, none⟩) hs.length hs.length, .slice (some ⟨g, o12, none⟩) vs.length vs.length]) (by simp [results, Ybaf.results25, go_sem, r0, r1, r2, r3, r4, r5]) rfl ⟨sha, _, _, rfl, UA.keep o14 (by simp only [List.mem_singleton]; omega), fun h => absurd h (by decide), fun _ => ⟨rfl, UB.keep o14 (by simp only [List.mem_singleton]; omega)⟩, P13.D.keep o14 (by simp only [List.mem_singleton]; omega) (by simp only [List.mem_singleton]; omega), oB.fresh (by omega)⟩
  · simp only [show ¬ ((2 : Int) = 3) by decide, if_false] at Db
    obtain ⟨⟨-, -, k2, k3, -⟩, -, -, -, y3, -⟩ := six P6.hS
    have HC6 : Hid _ := rd_u8 w6 d2 g _ _ Db
    have HX6 : Hid _ := P6
    clear Db P6
    go_wp2_with fail
    refine Calls.mono HC6.out ?_
    rintro e w7 ⟨rfl, Db7, O7⟩
    have P7 := HX6.out.side O7 hSd
    obtain ⟨⟨-, -, -, m3, -⟩, -, -, -, x3, -⟩ := six P7.hS
    have P8 := P7.set 3 (.int .u8 sha)
    have Db8 := Db7.keep ((Only.refl [S] w7).setCell ⟨S, 3, none⟩ (by simp) (.int .u8 sha)) (by simp only [List.mem_singleton]; omega) (by simp only [List.mem_singleton]; omega)
    have HC8 : Hid _ := rd_opq1 _ d2 g hs.length hs [] (by omega) rfl Db8
    have HX8 : Hid _ := P8
    clear HC6 HX6 Db7 O7 P7 P8 Db8 k2 k3 y3
    go_wp2_with fail
    refine Calls.mono HC8.out ?_
    rintro e w9 ⟨v9, rfl, U9, Db9, O9⟩
    have P9 := HX8.out.side O9 hSd
    obtain ⟨o9, rfl, hr9⟩ := U9.ex
    obtain ⟨⟨-, -, -, -, m4, -⟩, -, -, -, -, x4, -⟩ := six P9.hS
    have so : Only [S] w9 (w9.setCell ⟨S, 4, none⟩ (.slice (some ⟨g, o9, none⟩) hs.length hs.length)) := (Only.refl [S] w9).setCell ⟨S, 4, none⟩ (by simp) _
    have P10 := P9.set 4 (.slice (some ⟨g, o9, none⟩) hs.length hs.length)
    have Db10 := Db9.keep so (by simp only [List.mem_singleton]; omega) (by simp only [List.mem_singleton]; omega)
    have U10 := U9.keep so (by simp only [List.mem_singleton]; omega)
    have HC10 : Hid _ := rd_end _ d2 g Db10
    have HX10 : Hid _ := And.intro P10 U10
    clear HC8 HX8 U9 Db9 O9 P9 hr9 so P10 Db10 U10 m3 x3
    go_wp2_with fail
    refine Calls.mono HC10.out ?_
    rintro e w10 ⟨rfl, rfl⟩
    have HC11 : Hid _ := rd_fail _ db g _ HX10.out.1.D
    clear HC10 m4 x4
    go_wp2_with fail
    refine Calls.mono HC11.out ?_
    rintro e w11 ⟨rfl, D11, O11⟩
    have P11 := HX10.out.1.call O11 D11
    have U11 := HX10.out.2.keep O11 (by simp only [List.mem_singleton]; have := P11.D.ne; omega)
    have HC12 : Hid _ := rd_opq2 w11 db g vs.length vs ys (by omega) rfl P11.D
    have HX11 : Hid _ := And.intro P11 U11
    clear HC11 HX10 D11 O11 P11 U11
    go_wp2_with fail
    refine Calls.mono HC12.out ?_
    rintro e w12 ⟨v12, rfl, U12, D12, O12⟩
    have P12 := HX11.out.1.call O12 D12
    have U12' := HX11.out.2.keep O12 (by simp only [List.mem_singleton]; have := P12.D.ne; omega)
    obtain ⟨o12, rfl, hr12⟩ := U12.ex
    obtain ⟨⟨-, -, -, -, -, m5⟩, -, -, -, -, -, x5⟩ := six P12.hS
    have so : Only [S] w12 (w12.setCell ⟨S, 5, none⟩ (.slice (some ⟨g, o12, none⟩) vs.length vs.length)) := (Only.refl [S] w12).setCell ⟨S, 5, none⟩ (by simp) _
    have P13 := P12.set 5 (.slice (some ⟨g, o12, none⟩) vs.length vs.length)
    obtain ⟨w13, hw13⟩ : ∃ w13, w13 = w12.setCell ⟨S, 5, none⟩ (.slice (some ⟨g, o12, none⟩) vs.length vs.length) := ⟨_, rfl⟩
    rw [← hw13] at so P13
    have UA := U12.keep so (by simp only [List.mem_singleton]; omega)
    have UB := U12'.keep so (by simp only [List.mem_singleton]; omega)
    clear HC12 HX11 U12 D12 O12 P12 U12' hr12 so
    have FIN : Hid _ := And.intro P13 (And.intro UA UB)
    clear P13 UA UB
    go_upto_region 13 with fail
    rw [← hw13]
    clear hw13 m5 x5
    obtain ⟨P13, UA, UB⟩ := FIN.out
    obtain ⟨⟨t0, t1, t2, t3, t4, t5⟩, -⟩ := six (x0 := .int .u8 ha) (x1 := .int .u8 sa) (x2 := .int .u8 2) (x3 := .int .u8 sha) (x4 := .slice (some ⟨g, o9, none⟩) hs.length hs.length) (x5 := .slice (some ⟨g, o12, none⟩) vs.length vs.length) P13.hS
    obtain ⟨⟨r0, r1, r2, r3, r4, r5⟩, q0, q1, q2, q3, q4, q5⟩ := six P13.hR
    clear P13 UA UB
    go_wp2
    obtain ⟨P13, UA, UB⟩ := FIN.out
    have o14 := six_only (Only.refl [w.heap.size] w13) w.heap.size (by simp) (.int .u8 ha) (.int .u8 sa) (.int .u8 2) (.int .u8 sha) (.slice (some ⟨g, o9, none⟩) hs.length hs.length) (.slice (some ⟨g, o12, none⟩) vs.length vs.length)
    have oA : Only [w.heap.size, S, db] w _ := (P13.O.mono (by simp)).trans (o14.mono (by simp))
    have oB : Only [S, db] w _ := oA.fresh (Nat.le_refl _)
    refine bodyPost_ret (v := .agg #[.int .u8 ha, .int .u8 sa, .int .u8 2, .int .u8 sha, .slice (some ⟨g, o9, none⟩) hs.length hs.length, .slice (some ⟨g, o12, none⟩) vs.length vs.length]) (by simp [results, Ybaf.results25, go_sem, r0, r1, r2, r3, r4, r5]) rfl ⟨sha, _, _, rfl, UA.keep o14 (by simp only [List.mem_singleton]; omega), fun h => absurd h (by decide), fun _ => ⟨rfl, UB.keep o14 (by simp only [List.mem_singleton]; omega)⟩, P13.D.keep o14 (by simp only [List.mem_singleton]; omega) (by simp only [List.mem_singleton]; omega), oB.fresh (by omega)⟩
  · simp only [if_true] at Db
    obtain ⟨⟨-, -, k2, -⟩, -⟩ := six P6.hS
    have HC10 : Hid _ := rd_end _ d2 g Db
    have HX10 : Hid _ := P6
    clear Db P6
    go_wp2_with fail
    refine Calls.mono HC10.out ?_
    rintro e w10 ⟨rfl, rfl⟩
    have HC11 : Hid _ := rd_fail _ db g _ HX10.out.D
    clear HC10 k2
    go_wp2_with fail
    refine Calls.mono HC11.out ?_
    rintro e w11 ⟨rfl, D11, O11⟩
    have P11 := HX10.out.call O11 D11
    have HC12 : Hid _ := rd_opq2 w11 db g vs.length vs ys (by omega) rfl P11.D
    have HX11 : Hid _ := P11
    clear HC11 HX10 D11 O11 P11
    go_wp2_with fail
    refine Calls.mono HC12.out ?_
    rintro e w12 ⟨v12, rfl, U12, D12, O12⟩
    have P12 := HX11.out.call O12 D12
    obtain ⟨o12, rfl, hr12⟩ := U12.ex
    obtain ⟨⟨-, -, -, -, -, m5⟩, -, -, -, -, -, x5⟩ := six P12.hS
    have so : Only [S] w12 (w12.setCell ⟨S, 5, none⟩ (.slice (some ⟨g, o12, none⟩) vs.length vs.length)) := (Only.refl [S] w12).setCell ⟨S, 5, none⟩ (by simp) _
    have P13 := P12.set 5 (.slice (some ⟨g, o12, none⟩) vs.length vs.length)
    obtain ⟨w13, hw13⟩ : ∃ w13, w13 = w12.setCell ⟨S, 5, none⟩ (.slice (some ⟨g, o12, none⟩) vs.length vs.length) := ⟨_, rfl⟩
    rw [← hw13] at so P13
    have UA := U12.keep so (by simp only [List.mem_singleton]; omega)
    clear HC12 HX11 U12 D12 O12 P12 hr12 so
    have FIN : Hid _ := And.intro P13 UA
    clear P13 UA
    go_upto_region 13 with fail
    rw [← hw13]
    clear hw13 m5 x5
    obtain ⟨P13, UA⟩ := FIN.out
    obtain ⟨⟨t0, t1, t2, t3, t4, t5⟩, -⟩ := six (x0 := .int .u8 ha) (x1 := .int .u8 sa) (x2 := .int .u8 3) (x3 := .int .u8 0) (x4 := .slice none 0 0) (x5 := .slice (some ⟨g, o12, none⟩) vs.length vs.length) P13.hS
    obtain ⟨⟨r0, r1, r2, r3, r4, r5⟩, q0, q1, q2, q3, q4, q5⟩ := six P13.hR
    clear P13 UA
    go_wp2
    obtain ⟨P13, UA⟩ := FIN.out
    have o14 := six_only (Only.refl [w.heap.size] w13) w.heap.size (by simp) (.int .u8 ha) (.int .u8 sa) (.int .u8 3) (.int .u8 0) (.slice none 0 0) (.slice (some ⟨g, o12, none⟩) vs.length vs.length)
    have oA : Only [w.heap.size, S, db] w _ := (P13.O.mono (by simp)).trans (o14.mono (by simp))
    have oB : Only [S, db] w _ := oA.fresh (Nat.le_refl _)
    refine bodyPost_ret (v := .agg #[.int .u8 ha, .int .u8 sa, .int .u8 3, .int .u8 0, .slice none 0 0, .slice (some ⟨g, o12, none⟩) vs.length vs.length]) (by simp [results, Ybaf.results25, go_sem, r0, r1, r2, r3, r4, r5]) rfl ⟨0, _, _, rfl, UA.keep o14 (by simp only [List.mem_singleton]; omega), ⟨rfl, rfl⟩, P13.D.keep o14 (by simp only [List.mem_singleton]; omega) (by simp only [List.mem_singleton]; omega), oB.fresh (by omega)⟩
end Go.Proofs.YbulkacdsFmt
