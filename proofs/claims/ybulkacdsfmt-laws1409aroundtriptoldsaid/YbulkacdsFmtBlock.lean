/- block, with the law's closure, by its contract. -/
import Derived.Test.YbulkacdsFmtHdr
namespace Go.Proofs.YbulkacdsFmt
open Go.RowKit Go.Extern.Stop Go.Stop Go.Extern

/-- What has become of the encoder's error. -/
def ErrIs (err err' : Value) (fits : Prop) : Prop := (fits → err' = err) ∧ (¬ fits → err = .nilIface → ∃ b, err' = .iface 60 (.pointer (some b))) ∧ (¬ fits → ∀ T p, err = .iface T p → err' = err)

/-- The encoder, the counter and all else behind the fill. -/
structure After (w w' : World) (N eb bc calls : Nat) (v err : Value) (len : Nat) (ys : List Value) : Prop where
  he : w'.heap[eb]? = some (.cells #[v, err] 35 (0, 0))
  ho : w'.ownsRow N 5 1 v len ys
  hc : w'.heap[bc]? = some (.cells #[.int .i64 (calls + 1)] 3 (0, 0))
  O : Other [eb, bc] w w'
  B : Below N w w'
  hN : N ≤ w'.heap.size

theorem After.later {w w' w2 : World} {N eb bc calls : Nat} {v err : Value} {len : Nat} {ys : List Value} (A : After w w' N eb bc calls v err len ys) (hb : Below w'.heap.size w' w2) : After w w2 N eb bc calls v err len ys :=
  ⟨(hb.block _ (lt_of_block A.he)).trans A.he, own_below A.ho hb, (hb.block _ (lt_of_block A.hc)).trans A.hc, A.O.trans (Other.below hb), A.B.trans (hb.mono A.hN), Nat.le_trans A.hN hb.size⟩

theorem After.setErr {w w' : World} {N eb bc calls : Nat} {v err : Value} {len : Nat} {ys : List Value} (A : After w w' N eb bc calls v err len ys) (hNe : N ≤ eb) (x : Value) : After w (w'.setCell ⟨eb, 1, none⟩ x) N eb bc calls v x len ys :=
  ⟨two_set1 A.he, own_set A.ho (by decide) A.he _, (Below.heap_setCell _ _ _ _ (ne_ty A.hc A.he (by decide))).trans A.hc, A.O.trans (Other.setCell _ _ _ (by simp)), A.B.setCell (p := ⟨eb, 1, none⟩) hNe _, by simpa using A.hN⟩

theorem After.set {w w' : World} {N eb bc calls g cap : Nat} {err : Value} {len : Nat} {ys : List Value} (A : After w w' N eb bc calls (.slice (some ⟨g, 0, none⟩) len cap) err len ys) (j : Nat) (x : Value) :
    After w (w'.setCell ⟨g, j, none⟩ x) N eb bc calls (.slice (some ⟨g, 0, none⟩) len cap) err len (ys.set j x) := by
  have h1 : eb ≠ g := fun e => ownBlock_ty A.ho (by decide) A.he (by rw [e]; rfl)
  have h2 : bc ≠ g := fun e => ownBlock_ty A.ho (by decide) A.hc (by rw [e]; rfl)
  obtain ⟨k1, k2⟩ := A.ho.stored j x
  exact ⟨(Below.heap_setCell _ _ _ _ h1).trans A.he, k1, (Below.heap_setCell _ _ _ _ h2).trans A.hc, A.O.trans (Other.grown A.ho k2), A.B.setCell (p := ⟨g, j, none⟩) (own_blk A.ho g rfl) _, by simpa using A.hN⟩

theorem Env.later {w w' : World} {eb bc bv s1 bp bs s2 br bd : Nat} {pv dv : Value} {size reps calls : Nat} {v err : Value} (E : Env w eb bc bv s1 bp bs s2 br bd pv dv size reps calls) (he : w.heap[eb]? = some (.cells #[v, err] 35 (0, 0))) (O : Other [eb] w w') :
    Env w' eb bc bv s1 bp bs s2 br bd pv dv size reps calls := by
  have R := E.rest he (O.mono (by simp))
  exact ⟨R.hv, R.hs1, R.hp, R.hs, R.hs2, R.hr, R.hd, O _ _ _ (by decide) (by simp only [List.mem_singleton]; exact ne_ty E.hc he (by decide)) E.hc, E.ne1, E.ne2⟩

theorem ansB {B : Nat} {F : Interp} {w w1 : World} (hb : Below B w w1) (hF : F.answers w.tape) : F.answers w1.tape := by rw [hb.tape]; exact hF

theorem own_some {w : World} {B n : Nat} {v : Value} {xs : List Value} (ho : w.ownsRow B 5 1 v n xs) (hn : 0 < n) : ∃ g c, v = .slice (some ⟨g, 0, none⟩) n c := by
  rcases ho.2 with ⟨_, rfl⟩ | ⟨g, cap, cur, rfl, _⟩
  · omega
  · exact ⟨g, cap, rfl⟩

theorem new0 (w : World) (x y : Value) (t : TypeId) : (w.alloc (.cells #[x, y] t)).cell? ⟨w.heap.size, 0, none⟩ = some x := (two_cells (heap_alloc_new w _)).1
theorem new1 (w : World) (x y : Value) (t : TypeId) : (w.alloc (.cells #[x, y] t)).cell? ⟨w.heap.size, 1, none⟩ = some y := (two_cells (heap_alloc_new w _)).2.1

theorem hb_eq (m size k : Nat) : Value.int IntKind.u8 ((m : Int) / 2 ^ (8 * (size - 1 - k)) % 256) = hb m size k := by
  have h : (256 : Nat) ^ (size - 1 - k) = 2 ^ (8 * (size - 1 - k)) := by rw [Nat.pow_mul]
  unfold hb
  rw [h]
  congr 1

theorem After.drew {w w' : World} {N eb bc calls : Nat} {v err : Value} {len : Nat} {ys : List Value} (A : After w w' N eb bc calls v err len ys) : After w w'.drew N eb bc calls v err len ys :=
  ⟨A.he, A.ho.drew, A.hc, A.O, A.B.drew, A.hN⟩

set_option maxHeartbeats 2000000 in
theorem block_any (F : Interp) (w : World) (N eb bc bv s1 bp bs s2 br bd : Nat) (a1 : Option Addr) (l1 c1 : Nat) (a2 : Option Addr) (b2 o2 l2 c2 : Nat) (f2 : Nat → Int) (size reps calls : Nat) (v err : Value) (xs : List Value)
    (hF : F.answers w.tape) (hsz : size ≤ 8) (hrp : reps ≤ 8) (h1 : l1 ≤ 1024) (h2 : l2 ≤ 1024) (hcl : calls ≤ 10)
    (E : Env w eb bc bv s1 bp bs s2 br bd (.slice a1 l1 c1) (.slice a2 l2 c2) size reps calls)
    (he : w.heap[eb]? = some (.cells #[v, err] 35 (0, 0))) (ho : w.ownsRow N 5 1 v l1 xs) (hNe : N ≤ eb) (hNc : N ≤ bc)
    (hD : Bytes w a2 b2 o2 l2 f2) (hD0 : a2 = none → c2 = 0) (hDb : ∀ i, i < l2 → b2 < N) (hN : N ≤ w.heap.size)
    (herr : err = .nilIface ∨ ∃ b, err = .iface 60 (.pointer (some b))) :
    Calls Ybaf.prog 11 #[.pointer (some ⟨eb, 0, none⟩), .int .i64 size, .func (.func 12) #[] #[.pointer (some ⟨bc, 0, none⟩), .pointer (some ⟨bv, 0, none⟩), .pointer (some ⟨s1, 0, none⟩), .pointer (some ⟨bp, 0, none⟩), .pointer (some ⟨bs, 0, none⟩), .pointer (some ⟨s2, 0, none⟩), .pointer (some ⟨br, 0, none⟩), .pointer (some ⟨bd, 0, none⟩)]] w
      fun e w' => e = .returned (.tuple #[]) ∧ ∃ v' err', After w w' N eb bc calls v' err' (l1 + size + reps * l2) (xs ++ (hdr (reps * l2) size ++ repl (cellsOf f2 l2) reps)) ∧ ErrIs err err' (reps * l2 < lim size) := by
  have hm : reps * l2 ≤ 8 * 1024 := Nat.mul_le_mul hrp h2
  have hlen := ho.1
  obtain ⟨v1, w1, hrun, ho1, hg1⟩ := app_zeros ho size 22 (by omega) hN
  obtain ⟨he2, ho2, O2, B2, cx, zx⟩ := fill_step he ho hNe hN ho1 hg1
  have E2 := E.later he O2
  have hF2 := ansB B2 hF
  have hD2 := hD.later hDb B2
  have hN2 := Nat.le_trans hN B2.size
  obtain ⟨av, cv, rfl, hmx⟩ := own_form ho
  obtain ⟨av1, cv1, rfl, hmx1⟩ := own_form ho1
  have ce := (two_cells he).1
  have hfill := fill_any _ N eb bc bv s1 bp bs s2 br bd a1 l1 c1 a2 b2 o2 l2 c2 f2 size reps calls _ err (l1 + size) _ hsz hrp h1 h2 hcl E2 he2 ho2 rfl hNe hNc hD2 hD0 hDb hN2
  generalize reps * l2 = m at hm hfill ⊢
  have HC : Hid _ := hfill
  clear hfill
  have H2 : Hid _ := And.intro hlen (And.intro O2 (And.intro B2 (And.intro hF2 hN2)))
  have hlim := wrap_lim size hsz
  clear E he ho hD ho1 hg1 he2 ho2 O2 B2 E2 hD2 hF hmx1 hN2 hF2 hlen
  go_enter Ybaf.func11, Ybaf.ntmps11
  go_wp2_with (at_builtin; refine Lib.wpList_append_run _ rfl _ _ _ _ rfl _ _ rfl rfl _ _ hrun ?_)
  refine Calls.mono HC.out ?_
  rintro e w3 ⟨rfl, v3, he3, ho3, hc3, O3, B3⟩
  obtain ⟨hlen, O2, B2, hF2, hN2⟩ := H2.out
  have A : Hid (After w w3 N eb bc calls v3 err _ _) := ⟨he3, ho3, hc3, (O2.mono (by simp)).trans O3, B2.trans B3, Nat.le_trans hN2 B3.size⟩
  have hF3 := ansB B3 hF2
  obtain ⟨av3, cv3, rfl, hmx3⟩ := own_form ho3
  have ce3 := (two_cells he3).1
  clear HC H2 hrun O2 B2 hN2 O3 B3 hc3 he3 ho3 hF2 cx zx
  have hsub : (l1 : Int) + (size : Int) + (m : Int) - (l1 : Int) - (size : Int) = (m : Int) := by omega
  go_upto_if 40 with fail
  clear hsub
  go_cut [] from 9 to 69 (fun wx => ∃ err3, After w wx N eb bc calls (.slice av3 (l1 + size + m) cv3) err3 (l1 + size + m) (xs ++ List.replicate size (.int .u8 0) ++ repl (cellsOf f2 l2) reps) ∧ ErrIs err err3 (m < lim size))
  case first =>
    by_cases hfit : m < lim size
    · have hdec : decide ((lim size : Int) ≤ (m : Int)) = false := by simp; omega
      go_wp2
      go_meet
      case rel => exact ⟨err, A.out, fun _ => rfl, fun h => absurd hfit h, fun h => absurd hfit h⟩
    · have hdec : decide ((lim size : Int) ≤ (m : Int)) = true := by simp; omega
      go_wp2_with fail
      refine (errorf_fit F m size w3.heap.size _ (by exact hF3) (new0 _ _ _ _) (new1 _ _ _ _)).mono ?_
      rintro e w4 ⟨b, rfl, hb4⟩
      have hb5 : Below w3.heap.size w3 w4 := ((Below.refl _ w3).alloc (Nat.le_refl _) _).trans (hb4.mono (by simp))
      have A4 := A.out.later hb5
      go_wp2_with fail
      rcases herr with rfl | ⟨b', rfl⟩
      · refine (fail_set eb _ b _ A4.he).mono ?_
        rintro e w5 ⟨rfl, rfl⟩
        have A5 : Hid _ := A4.setErr hNe (.iface 60 (.pointer (some b)))
        clear A4 hb4 hb5
        go_wp2
        go_meet
        case rel => exact ⟨_, A5.out, fun h => absurd h hfit, fun _ _ => ⟨b, rfl⟩, fun _ T p h => by cases h⟩
      · refine (fail_keep eb _ _ _ _ _ A4.he).mono ?_
        rintro e w5 ⟨rfl, rfl⟩
        have A5 : Hid _ := A4
        clear A4 hb4 hb5
        go_wp2
        go_meet
        case rel => exact ⟨_, A5.out, fun h => absurd h hfit, fun _ h => (Value.noConfusion h), fun _ _ _ _ => rfl⟩
  case rest =>
    obtain ⟨err3, A3, hE⟩ := hcut
    clear A hF3 ce3 hlim
    have HE : Hid _ := hE
    clear hE
    rw [List.append_assoc] at A3
    go_wp2_with fail
    go_loopw [50] (fun i wr => ∃ k : Nat, k ≤ size ∧ i = .int .i64 k ∧ After w wr N eb bc calls (.slice av3 (l1 + size + m) cv3) err3 (l1 + size + m) (hdrSet (xs ++ (List.replicate size (.int .u8 0) ++ repl (cellsOf f2 l2) reps)) l1 size m k)) (fun i _ => size - (intOf i).toNat)
    case atStart => exact ⟨0, Nat.zero_le _, rfl, A3⟩
    case round =>
      obtain ⟨k, hk, rfl, A6⟩ := hrel
      by_cases hlt : k < size
      · obtain ⟨g, cap, hv⟩ := own_some A6.ho (by omega)
        obtain ⟨rfl, rfl⟩ : av3 = some ⟨g, 0, none⟩ ∧ cv3 = cap := by simpa using hv
        have ce6 := (two_cells A6.he).1
        have hz6 := A6.ho.frozenAt (l1 + k)
        have hc6 := A6.ho.cellAt (l1 + k) (by omega)
        have A7 : Hid _ := A6.set (l1 + k) (hb m size k)
        obtain ⟨u6, hu6⟩ : ∃ u, (hdrSet (xs ++ (List.replicate size (.int .u8 0) ++ repl (cellsOf f2 l2) reps)) l1 size m k)[l1 + k]? = some u := by
          rw [← hc6]
          have hl6 := A6.ho.1
          exact ⟨_, hc6.trans (List.getElem?_eq_getElem (by omega))⟩
        rw [hu6] at hc6
        clear hu6 A6 A3 hv
        go_wp2_with fail
        go_region
        rw [hb_eq]
        go_wp2
        exact ⟨⟨k + 1, by omega, by go_num, A7.out.drew⟩, by simp [intOf]; omega⟩
      · obtain rfl : k = size := by omega
        have hfin := hdrSet_all xs (repl (cellsOf f2 l2) reps) (.int .u8 0) l1 k m (by omega)
        rw [hfin] at A6
        have A7 : Hid _ := A6
        clear A6 A3 hfin
        go_wp2
        go_end0
        exact ⟨rfl, _, err3, A7.out, HE.out⟩
end Go.Proofs.YbulkacdsFmt
