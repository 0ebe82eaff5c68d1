/- The encoder's methods by their contracts, for LawS1409ARoundTrip: no length fails to fit there, so err stays nil. -/
import Derived.Test.YbulkacdsFmtBlock
import Derived.Deep.RegionLaw
set_option linter.unusedVariables false
set_option linter.unusedSimpArgs false
namespace Go.Proofs.YbulkacdsFmt
open Go.RowKit Go.Extern.Stop Go.Stop Go.Extern

/-- An encoder without an error. -/
structure Enc (w : World) (N eb : Nat) (v : Value) (n : Nat) (xs : List Value) : Prop where
  he : w.heap[eb]? = some (.cells #[v, .nilIface] 35 (0, 0))
  ho : w.ownsRow N 5 1 v n xs
  hNe : N ≤ eb
  hN : N ≤ w.heap.size

/-- Nothing has turned but rows of bytes from N on, the encoder, and what is new. -/
structure Step (N eb : Nat) (w w' : World) : Prop where
  O : Other [eb] w w'
  B : Below N w w'

theorem Step.refl (N eb : Nat) (w : World) : Step N eb w w := ⟨Other.refl _ w, Below.refl _ w⟩
theorem Step.trans {N eb : Nat} {a b c : World} (h : Step N eb a b) (k : Step N eb b c) : Step N eb a c := ⟨h.O.trans k.O, h.B.trans k.B⟩
theorem Step.below {N eb : Nat} {w w' : World} (hN : N ≤ w.heap.size) (hb : Below w.heap.size w w') : Step N eb w w' := ⟨Other.below hb, hb.mono hN⟩
theorem Step.keep {N eb : Nat} {w w' : World} (h : Step N eb w w') {v x : Value} (he : w.heap[eb]? = some (.cells #[v, x] 35 (0, 0))) {k : Nat} {cs : Array Value} {t : TypeId} (ht : t ≠ 5) (ht' : t ≠ 35) (hc : w.heap[k]? = some (.cells cs t (0, 0))) : w'.heap[k]? = some (.cells cs t (0, 0)) :=
  h.O _ _ _ ht (by simp only [List.mem_singleton]; exact ne_ty hc he ht') hc

theorem Enc.later {w w' : World} {N eb n : Nat} {v : Value} {xs : List Value} (E : Enc w N eb v n xs) (hb : Below w.heap.size w w') : Enc w' N eb v n xs :=
  ⟨(hb.block _ (lt_of_block E.he)).trans E.he, own_below E.ho hb, E.hNe, Nat.le_trans E.hN hb.size⟩

/-- The row has grown and lies in the encoder again. -/
theorem enc_step {w w2 : World} {N eb n m : Nat} {v v2 : Value} {xs ys : List Value} (E : Enc w N eb v n xs) (h2 : w2.ownsRow N 5 1 v2 m ys) (hg : w.grownBy w2 v.ownBlock) :
    Enc (w2.setCell ⟨eb, 0, none⟩ v2) N eb v2 m ys ∧ Step N eb w (w2.setCell ⟨eb, 0, none⟩ v2) ∧ w2.cell? ⟨eb, 0, none⟩ = some v ∧ w2.frozen? ⟨eb, 0, none⟩ = false := by
  obtain ⟨h3, h4, h5, h6, h7, h8⟩ := fill_step E.he E.ho E.hNe E.hN h2 hg
  exact ⟨⟨h3, h4, E.hNe, Nat.le_trans E.hN h6.size⟩, ⟨h5, h6⟩, h7, h8⟩

set_option maxHeartbeats 800000 in
theorem u8_any (w : World) (N eb n : Nat) (v : Value) (xs : List Value) (b : Int) (E : Enc w N eb v n xs) (hn : n ≤ 1000000) :
    Calls Ybaf.prog 15 #[.pointer (some ⟨eb, 0, none⟩), .int .u8 b] w fun e w' => e = .returned (.tuple #[]) ∧ ∃ v', Enc w' N eb v' (n + 1) (xs ++ [.int .u8 b]) ∧ Step N eb w w' := by
  have E1 : Enc (w.alloc (.cells #[.int .u8 b] 5)) N eb v n xs := E.later ((Below.refl _ w).alloc (Nat.le_refl _) _)
  have S1 : Step N eb w (w.alloc (.cells #[.int .u8 b] 5)) := Step.below E.hN ((Below.refl _ w).alloc (Nat.le_refl _) _)
  obtain ⟨i, hi, hz, hs, hby⟩ := i5
  obtain ⟨v2, w2, hrun, ho2, hg2, _⟩ := run_append_own (w.alloc (.cells #[.int .u8 b] 5)) N 22 22 5 i _ 1 1 Ybaf.underlying22 hi hz hs hby rfl (by omega) v n xs E1.ho ⟨w.heap.size, 0, none⟩ 1 1 [.int .u8 b] rfl (cell_one_new _ _ _) (by simp [Value.oneCell']) (by simp only [maxLen]; omega) (by omega) E1.hN
  obtain ⟨E2, S2, c2, z2⟩ := enc_step E1 ho2 hg2
  obtain ⟨av, cv, rfl, _⟩ := own_form E.ho
  obtain ⟨av2, cv2, rfl, _⟩ := own_form ho2
  have ce := (two_cells E.he).1
  have le := lt_of_block E.he
  have HH : Hid _ := And.intro E2 (S1.trans S2)
  clear E E1 S1 ho2 hg2 E2 S2 hi hz hs hby
  go_enter Ybaf.func15, Ybaf.ntmps15
  go_wp2_with (at_builtin; refine Lib.wpList_append_run _ rfl _ _ _ _ rfl _ _ rfl rfl _ _ hrun ?_)
  go_end0
  exact ⟨rfl, _, HH.out.1, HH.out.2⟩

set_option maxHeartbeats 800000 in
theorem opq1_any (w : World) (N eb pb n : Nat) (v : Value) (xs : List Value) (a : Option Addr) (b o l c : Nat) (f : Nat → Int) (E : Enc w N eb v n xs) (hn : n ≤ 1000000) (hl : l ≤ 1000000)
    (hp : w.heap[pb]? = some (.cells #[.slice a l c] 22 (0, 0))) (hB : Bytes w a b o l f) (h0 : a = none → c = 0) :
    Calls Ybaf.prog 27 #[.pointer (some ⟨eb, 0, none⟩), .pointer (some ⟨pb, 0, none⟩)] w fun e w' => e = .returned (.tuple #[]) ∧ ∃ v', Enc w' N eb v' (n + l) (xs ++ cellsOf f l) ∧ Step N eb w w' := by
  have E1 : Enc w.drew N eb v n xs := E.later (Below.refl _ w).drew
  obtain ⟨v2, w2, hrun, ho2, hg2⟩ := app_own E1.ho c hB.drew h0 22 (by omega) E1.hN
  obtain ⟨E2, S2, c2, z2⟩ := enc_step E1 ho2 hg2
  obtain ⟨av, cv, rfl, _⟩ := own_form E.ho
  obtain ⟨av2, cv2, rfl, _⟩ := own_form ho2
  have ce := (two_cells E.he).1
  have cp := cell_of_one hp
  have HH : Hid _ := And.intro E2 ((Step.below (eb := eb) E.hN (Below.refl _ w).drew).trans S2)
  clear E E1 ho2 hg2 E2 S2 hB hp
  go_enter Ybaf.func27, Ybaf.ntmps27
  go_wp2_with fail
  go_region_law (refine step_append_run _ (by rfl) _ _ _ _ (by rfl) _ _ (by rfl) (by rfl) _ _ hrun ?_)
  all_goals
    go_wp2
    go_end0
    exact ⟨rfl, _, HH.out.1, HH.out.2⟩

theorem Enc.set {w : World} {N eb n g cap : Nat} {ys : List Value} (A : Enc w N eb (.slice (some ⟨g, 0, none⟩) n cap) n ys) (j : Nat) (x : Value) :
    Enc (w.setCell ⟨g, j, none⟩ x) N eb (.slice (some ⟨g, 0, none⟩) n cap) n (ys.set j x) ∧ Step N eb w (w.setCell ⟨g, j, none⟩ x) := by
  have h1 : eb ≠ g := fun e => ownBlock_ty A.ho (by decide) A.he (by rw [e]; rfl)
  obtain ⟨k1, k2⟩ := A.ho.stored j x
  exact ⟨⟨(Below.heap_setCell _ _ _ _ h1).trans A.he, k1, A.hNe, by simpa using A.hN⟩, ⟨Other.grown A.ho k2, (Below.refl _ w).setCell (p := ⟨g, j, none⟩) (own_blk A.ho g rfl) _⟩⟩
theorem Enc.drew {w : World} {N eb n : Nat} {v : Value} {ys : List Value} (A : Enc w N eb v n ys) : Enc w.drew N eb v n ys := A.later (Below.refl _ w).drew
theorem Step.drew {N eb : Nat} {w w' : World} (h : Step N eb w w') : Step N eb w w'.drew := ⟨h.O, h.B.drew⟩

set_option maxHeartbeats 2000000 in
theorem block27 (w : World) (N eb cb size m n : Nat) (v : Value) (xs ys : List Value) (hsz : size ≤ 8) (hm : m < lim size) (hmb : m ≤ 1000000) (hn : n ≤ 1000000) (E : Enc w N eb v n xs)
    (hfill : ∀ w2 v2, Enc w2 N eb v2 (n + size) (xs ++ List.replicate size (.int .u8 0)) → Step N eb w w2 → Calls Ybaf.prog 27 #[.pointer (some ⟨eb, 0, none⟩), .pointer (some ⟨cb, 0, none⟩)] w2
      fun e w3 => e = .returned (.tuple #[]) ∧ ∃ v3, Enc w3 N eb v3 (n + size + m) (xs ++ List.replicate size (.int .u8 0) ++ ys) ∧ Step N eb w2 w3) :
    Calls Ybaf.prog 11 #[.pointer (some ⟨eb, 0, none⟩), .int .i64 size, .func (.func 27) #[] #[.pointer (some ⟨cb, 0, none⟩)]] w
      fun e w' => e = .returned (.tuple #[]) ∧ ∃ v', Enc w' N eb v' (n + size + m) (xs ++ (hdr m size ++ ys)) ∧ Step N eb w w' := by
  have hlen := E.ho.1
  obtain ⟨v1, w1, hrun, ho1, hg1⟩ := app_zeros E.ho size 22 (by omega) E.hN
  obtain ⟨E2, S2, cx, zx⟩ := enc_step E ho1 hg1
  obtain ⟨av, cv, rfl, hmx⟩ := own_form E.ho
  obtain ⟨av1, cv1, rfl, hmx1⟩ := own_form ho1
  have ce := (two_cells E.he).1
  have HC : Hid _ := hfill _ _ E2 S2
  have H2 : Hid _ := And.intro hlen S2
  have hlim := wrap_lim size hsz
  clear E ho1 hg1 E2 S2 hfill hlen hmx1
  go_enter Ybaf.func11, Ybaf.ntmps11
  go_wp2_with (at_builtin; refine Lib.wpList_append_run _ rfl _ _ _ _ rfl _ _ rfl rfl _ _ hrun ?_)
  refine Calls.mono HC.out ?_
  rintro e w3 ⟨rfl, v3, E3, S3⟩
  obtain ⟨hlen, S2⟩ := H2.out
  have S3' : Hid (Step N eb w w3) := S2.trans S3
  obtain ⟨av3, cv3, rfl, hmx3⟩ := own_form E3.ho
  have ce3 := (two_cells E3.he).1
  rw [List.append_assoc] at E3
  have E3' : Hid _ := E3
  clear HC H2 hrun S2 S3 cx zx E3
  have hsub : (n : Int) + (size : Int) + (m : Int) - (n : Int) - (size : Int) = (m : Int) := by omega
  have hdec : ¬ ((lim size : Int) ≤ (m : Int)) := by omega
  go_wp2_with fail
  have E3 := E3'.out
  have S3 := S3'.out
  clear hsub hdec hlim ce3 ce E3' S3'
  go_loopw [50] (fun i wr => ∃ k : Nat, k ≤ size ∧ i = .int .i64 k ∧ Enc wr N eb (.slice av3 (n + size + m) cv3) (n + size + m) (hdrSet (xs ++ (List.replicate size (.int .u8 0) ++ ys)) n size m k) ∧ Step N eb w wr) (fun i _ => size - (intOf i).toNat)
  case atStart => exact ⟨0, Nat.zero_le _, rfl, E3, S3⟩
  case round =>
    obtain ⟨k, hk, rfl, A6, S6⟩ := hrel
    by_cases hlt : k < size
    · obtain ⟨g, cap, hv⟩ := own_some A6.ho (by omega)
      obtain ⟨rfl, rfl⟩ : av3 = some ⟨g, 0, none⟩ ∧ cv3 = cap := by simpa using hv
      have ce6 := (two_cells A6.he).1
      have hz6 := A6.ho.frozenAt (n + k)
      have hc6 := A6.ho.cellAt (n + k) (by omega)
      have A7 := A6.set (n + k) (hb m size k)
      have HA : Hid _ := And.intro A7.1.drew (S6.trans A7.2).drew
      obtain ⟨u6, hu6⟩ : ∃ u, (hdrSet (xs ++ (List.replicate size (.int .u8 0) ++ ys)) n size m k)[n + k]? = some u := by
        have hl6 := A6.ho.1
        exact ⟨_, List.getElem?_eq_getElem (by omega)⟩
      rw [hu6] at hc6
      clear hu6 A6 hv A7 E3 S3 S6
      go_wp2_with fail
      go_region
      rw [hb_eq]
      go_wp2
      exact ⟨⟨k + 1, by omega, by go_num, HA.out.1, HA.out.2⟩, by simp [intOf]; omega⟩
    · obtain rfl : k = size := by omega
      have hfin := hdrSet_all xs ys (.int .u8 0) n k m (by omega)
      rw [hfin] at A6
      have A7 : Hid _ := And.intro A6 S6
      clear A6 hfin S6 E3 S3
      go_wp2
      go_end0
      exact ⟨rfl, _, A7.out.1, A7.out.2⟩

set_option maxHeartbeats 2000000 in
theorem block14 (w : World) (N eb cb size m n : Nat) (v : Value) (xs ys : List Value) (hsz : size ≤ 8) (hm : m < lim size) (hmb : m ≤ 1000000) (hn : n ≤ 1000000) (E : Enc w N eb v n xs)
    (hfill : ∀ w2 v2, Enc w2 N eb v2 (n + size) (xs ++ List.replicate size (.int .u8 0)) → Step N eb w w2 → Calls Ybaf.prog 14 #[.pointer (some ⟨eb, 0, none⟩), .pointer (some ⟨cb, 0, none⟩)] w2
      fun e w3 => e = .returned (.tuple #[]) ∧ ∃ v3, Enc w3 N eb v3 (n + size + m) (xs ++ List.replicate size (.int .u8 0) ++ ys) ∧ Step N eb w2 w3) :
    Calls Ybaf.prog 11 #[.pointer (some ⟨eb, 0, none⟩), .int .i64 size, .func (.func 14) #[] #[.pointer (some ⟨cb, 0, none⟩)]] w
      fun e w' => e = .returned (.tuple #[]) ∧ ∃ v', Enc w' N eb v' (n + size + m) (xs ++ (hdr m size ++ ys)) ∧ Step N eb w w' := by
  have hlen := E.ho.1
  obtain ⟨v1, w1, hrun, ho1, hg1⟩ := app_zeros E.ho size 22 (by omega) E.hN
  obtain ⟨E2, S2, cx, zx⟩ := enc_step E ho1 hg1
  obtain ⟨av, cv, rfl, hmx⟩ := own_form E.ho
  obtain ⟨av1, cv1, rfl, hmx1⟩ := own_form ho1
  have ce := (two_cells E.he).1
  have HC : Hid _ := hfill _ _ E2 S2
  have H2 : Hid _ := And.intro hlen S2
  have hlim := wrap_lim size hsz
  clear E ho1 hg1 E2 S2 hfill hlen hmx1
  go_enter Ybaf.func11, Ybaf.ntmps11
  go_wp2_with (at_builtin; refine Lib.wpList_append_run _ rfl _ _ _ _ rfl _ _ rfl rfl _ _ hrun ?_)
  refine Calls.mono HC.out ?_
  rintro e w3 ⟨rfl, v3, E3, S3⟩
  obtain ⟨hlen, S2⟩ := H2.out
  have S3' : Hid (Step N eb w w3) := S2.trans S3
  obtain ⟨av3, cv3, rfl, hmx3⟩ := own_form E3.ho
  have ce3 := (two_cells E3.he).1
  rw [List.append_assoc] at E3
  have E3' : Hid _ := E3
  clear HC H2 hrun S2 S3 cx zx E3
  have hsub : (n : Int) + (size : Int) + (m : Int) - (n : Int) - (size : Int) = (m : Int) := by omega
  have hdec : ¬ ((lim size : Int) ≤ (m : Int)) := by omega
  go_wp2_with fail
  have E3 := E3'.out
  have S3 := S3'.out
  clear hsub hdec hlim ce3 ce E3' S3'
  go_loopw [50] (fun i wr => ∃ k : Nat, k ≤ size ∧ i = .int .i64 k ∧ Enc wr N eb (.slice av3 (n + size + m) cv3) (n + size + m) (hdrSet (xs ++ (List.replicate size (.int .u8 0) ++ ys)) n size m k) ∧ Step N eb w wr) (fun i _ => size - (intOf i).toNat)
  case atStart => exact ⟨0, Nat.zero_le _, rfl, E3, S3⟩
  case round =>
    obtain ⟨k, hk, rfl, A6, S6⟩ := hrel
    by_cases hlt : k < size
    · obtain ⟨g, cap, hv⟩ := own_some A6.ho (by omega)
      obtain ⟨rfl, rfl⟩ : av3 = some ⟨g, 0, none⟩ ∧ cv3 = cap := by simpa using hv
      have ce6 := (two_cells A6.he).1
      have hz6 := A6.ho.frozenAt (n + k)
      have hc6 := A6.ho.cellAt (n + k) (by omega)
      have A7 := A6.set (n + k) (hb m size k)
      have HA : Hid _ := And.intro A7.1.drew (S6.trans A7.2).drew
      obtain ⟨u6, hu6⟩ : ∃ u, (hdrSet (xs ++ (List.replicate size (.int .u8 0) ++ ys)) n size m k)[n + k]? = some u := by
        have hl6 := A6.ho.1
        exact ⟨_, List.getElem?_eq_getElem (by omega)⟩
      rw [hu6] at hc6
      clear hu6 A6 hv A7 E3 S3 S6
      go_wp2_with fail
      go_region
      rw [hb_eq]
      go_wp2
      exact ⟨⟨k + 1, by omega, by go_num, HA.out.1, HA.out.2⟩, by simp [intOf]; omega⟩
    · obtain rfl : k = size := by omega
      have hfin := hdrSet_all xs ys (.int .u8 0) n k m (by omega)
      rw [hfin] at A6
      have A7 : Hid _ := And.intro A6 S6
      clear A6 hfin S6 E3 S3
      go_wp2
      go_end0
      exact ⟨rfl, _, A7.out.1, A7.out.2⟩

set_option maxHeartbeats 2000000 in
theorem block33 (w : World) (N eb cb size m n : Nat) (v : Value) (xs ys : List Value) (hsz : size ≤ 8) (hm : m < lim size) (hmb : m ≤ 1000000) (hn : n ≤ 1000000) (E : Enc w N eb v n xs)
    (hfill : ∀ w2 v2, Enc w2 N eb v2 (n + size) (xs ++ List.replicate size (.int .u8 0)) → Step N eb w w2 → Calls Ybaf.prog 33 #[.pointer (some ⟨eb, 0, none⟩), .pointer (some ⟨cb, 0, none⟩)] w2
      fun e w3 => e = .returned (.tuple #[]) ∧ ∃ v3, Enc w3 N eb v3 (n + size + m) (xs ++ List.replicate size (.int .u8 0) ++ ys) ∧ Step N eb w2 w3) :
    Calls Ybaf.prog 11 #[.pointer (some ⟨eb, 0, none⟩), .int .i64 size, .func (.func 33) #[] #[.pointer (some ⟨cb, 0, none⟩)]] w
      fun e w' => e = .returned (.tuple #[]) ∧ ∃ v', Enc w' N eb v' (n + size + m) (xs ++ (hdr m size ++ ys)) ∧ Step N eb w w' := by
  have hlen := E.ho.1
  obtain ⟨v1, w1, hrun, ho1, hg1⟩ := app_zeros E.ho size 22 (by omega) E.hN
  obtain ⟨E2, S2, cx, zx⟩ := enc_step E ho1 hg1
  obtain ⟨av, cv, rfl, hmx⟩ := own_form E.ho
  obtain ⟨av1, cv1, rfl, hmx1⟩ := own_form ho1
  have ce := (two_cells E.he).1
  have HC : Hid _ := hfill _ _ E2 S2
  have H2 : Hid _ := And.intro hlen S2
  have hlim := wrap_lim size hsz
  clear E ho1 hg1 E2 S2 hfill hlen hmx1
  go_enter Ybaf.func11, Ybaf.ntmps11
  go_wp2_with (at_builtin; refine Lib.wpList_append_run _ rfl _ _ _ _ rfl _ _ rfl rfl _ _ hrun ?_)
  refine Calls.mono HC.out ?_
  rintro e w3 ⟨rfl, v3, E3, S3⟩
  obtain ⟨hlen, S2⟩ := H2.out
  have S3' : Hid (Step N eb w w3) := S2.trans S3
  obtain ⟨av3, cv3, rfl, hmx3⟩ := own_form E3.ho
  have ce3 := (two_cells E3.he).1
  rw [List.append_assoc] at E3
  have E3' : Hid _ := E3
  clear HC H2 hrun S2 S3 cx zx E3
  have hsub : (n : Int) + (size : Int) + (m : Int) - (n : Int) - (size : Int) = (m : Int) := by omega
  have hdec : ¬ ((lim size : Int) ≤ (m : Int)) := by omega
  go_wp2_with fail
  have E3 := E3'.out
  have S3 := S3'.out
  clear hsub hdec hlim ce3 ce E3' S3'
  go_loopw [50] (fun i wr => ∃ k : Nat, k ≤ size ∧ i = .int .i64 k ∧ Enc wr N eb (.slice av3 (n + size + m) cv3) (n + size + m) (hdrSet (xs ++ (List.replicate size (.int .u8 0) ++ ys)) n size m k) ∧ Step N eb w wr) (fun i _ => size - (intOf i).toNat)
  case atStart => exact ⟨0, Nat.zero_le _, rfl, E3, S3⟩
  case round =>
    obtain ⟨k, hk, rfl, A6, S6⟩ := hrel
    by_cases hlt : k < size
    · obtain ⟨g, cap, hv⟩ := own_some A6.ho (by omega)
      obtain ⟨rfl, rfl⟩ : av3 = some ⟨g, 0, none⟩ ∧ cv3 = cap := by simpa using hv
      have ce6 := (two_cells A6.he).1
      have hz6 := A6.ho.frozenAt (n + k)
      have hc6 := A6.ho.cellAt (n + k) (by omega)
      have A7 := A6.set (n + k) (hb m size k)
      have HA : Hid _ := And.intro A7.1.drew (S6.trans A7.2).drew
      obtain ⟨u6, hu6⟩ : ∃ u, (hdrSet (xs ++ (List.replicate size (.int .u8 0) ++ ys)) n size m k)[n + k]? = some u := by
        have hl6 := A6.ho.1
        exact ⟨_, List.getElem?_eq_getElem (by omega)⟩
      rw [hu6] at hc6
      clear hu6 A6 hv A7 E3 S3 S6
      go_wp2_with fail
      go_region
      rw [hb_eq]
      go_wp2
      exact ⟨⟨k + 1, by omega, by go_num, HA.out.1, HA.out.2⟩, by simp [intOf]; omega⟩
    · obtain rfl : k = size := by omega
      have hfin := hdrSet_all xs ys (.int .u8 0) n k m (by omega)
      rw [hfin] at A6
      have A7 : Hid _ := And.intro A6 S6
      clear A6 hfin S6 E3 S3
      go_wp2
      go_end0
      exact ⟨rfl, _, A7.out.1, A7.out.2⟩

end Go.Proofs.YbulkacdsFmt
