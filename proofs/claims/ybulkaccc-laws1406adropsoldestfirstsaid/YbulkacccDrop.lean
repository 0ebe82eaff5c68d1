/- dropLocked by its contract: the oldest listing goes. -/
import Derived.Test.YbulkacccDropWalk
set_option linter.unusedVariables false
set_option linter.unusedSimpArgs false
namespace Go.Proofs.Ybulkaccc
open Go.RowKit Go.WideMaps Go.MapKept

/-- The listings lo .. hi - 1 are held: in the list, in the maps; the answers 0 .. hi - 1 lie in memory. -/
structure Held (w : World) (B S mR mS L : Nat) (nm : Nat → ByteArray) (ln : Nat → Nat) (F : Where) (eb : Nat → Nat) (lo hi : Nat) : Prop where
  ring : Ring w B L eb F.hb lo hi
  reps : Reps w B mR mS nm F lo hi
  ans : ∀ i, i < hi → Ans w (F.hb i) (nm i) i (ln i) S (eb i)

/-- No share is left. -/
def Gone (w : World) (O S mR mS L : Nat) (ob : Int) : Prop :=
  (∃ oc, At w O oc 49 ∧ oc[4]? = some (.map (some mR)) ∧ oc[5]? = some (.map (some mS)) ∧ (∃ a c, oc[6]? = some (.slice a 0 c)) ∧ oc[7]? = some (.int .i64 ob)) ∧
    (∃ sc, At w S sc 29 ∧ sc[2]? = some (.pointer (some ⟨L, 0, none⟩))) ∧ KMap w 9 mS (fun _ _ => False)

/-- What the fallback says of itself. -/
def Own (w : World) (B O S FB mR mS L lo hi : Nat) (ob sb : Int) : Prop :=
  (lo < hi → ∃ oc, Sh w B O S FB mR mS L oc ob sb) ∧ (lo = hi → Gone w O S mR mS L ob)

def dT : List TypeId := [73, 82, 79, 29, 49, 25]

section
variable {w : World} {B O S FB mR mS L : Nat} {oc : Array Value} {ob sb : Int} {nm : Nat → ByteArray} {ln : Nat → Nat} {F : Where} {eb : Nat → Nat} {lo hi : Nat}

theorem Ans.cells {H : Nat} {s : ByteArray} {i n E : Nat} (h : Ans w H s i n S E) : w.cell? ⟨H, 0, none⟩ = some (.string s) ∧ (∃ a c, w.cell? ⟨H, 36, none⟩ = some (.slice a n c)) ∧ w.cell? ⟨H, 76, none⟩ = some (.bool false) ∧
    w.cell? ⟨H, 77, none⟩ = some (.pointer (some ⟨S, 0, none⟩)) ∧ w.cell? ⟨H, 78, none⟩ = some (.pointer (some ⟨E, 0, none⟩)) ∧ (keyLoad ⟨H, 1, none⟩).run Yba.prog w = .ok (K i) w := by
  obtain ⟨hc, h0, h1, h2, ⟨a, c, h3⟩, h4, h5, h6⟩ := h
  refine ⟨h0.cell _ _ h1, ⟨a, c, h0.cell _ _ h3⟩, h0.cell _ _ h4, h0.cell _ _ h5, h0.cell _ _ h6, key_load w H 1 _ _ fun k hk => ?_⟩
  rw [kb_get _ _ k hk]
  exact h0.cell _ _ ((h2 k hk).trans (kb_get _ _ k hk))

/-- What is behind the maps: the list, the share. -/
theorem drop_tail (hd : Held w B S mR mS L nm ln F eb lo hi) (sh : Sh w B O S FB mR mS L oc ob sb) (hB : B ≤ w.heap.size) (hlt : lo < hi) (hh : hi ≤ 1024) (hln : ln lo < 256)
    (w1 : -1000000 < ob) (w2 : ob < 100000000) (w3 : -1000000 < sb) (w4 : sb < 100000000) (y : World)
    (OY : Only [F.ab lo, F.lm (nm lo), mR] w y) (RY : Reps y B mR mS nm F (lo + 1) hi) :
    Tail O (F.hb lo) S L (eb lo) (ln lo : Int) (fun w' => (∃ M, Kept dT M B w w') ∧ Held w' B S mR mS L nm ln F eb (lo + 1) hi ∧ Own w' B O S FB mR mS L (lo + 1) hi (ob - (256 + (ln lo : Int))) (sb - (256 + (ln lo : Int)))) y := by
  have hr := hd.reps
  have d3 := hr.d3 lo (Nat.le_refl _) hlt
  have K0 : Kept dT [F.lm (nm lo), mR] B w y := Kept.of_only OY hB (by
    intro k hk
    simp only [List.mem_cons, List.not_mem_nil, or_false] at hk
    rcases hk with rfl | rfl | rfl
    · exact ⟨(hr.b2 lo (Nat.le_refl _) hlt).2, .inl ⟨_, _, hr.vou lo (Nat.le_refl _) hlt, by simp [dT]⟩⟩
    · obtain ⟨es, c, h1, _⟩ := hr.lst lo (Nat.le_refl _) hlt
      exact ⟨(hr.b2 lo (Nat.le_refl _) hlt).1, .inr ⟨by simp, es, c, h1⟩⟩
    · obtain ⟨es, c, h1, _⟩ := hr.top
      exact ⟨hr.b1, .inr ⟨by simp, es, c, h1⟩⟩)
  have K1 : Kept [73] [F.lm (nm lo), mR] B w y := Kept.of_only OY hB (by
    intro k hk
    simp only [List.mem_cons, List.not_mem_nil, or_false] at hk
    rcases hk with rfl | rfl | rfl
    · exact ⟨(hr.b2 lo (Nat.le_refl _) hlt).2, .inl ⟨_, _, hr.vou lo (Nat.le_refl _) hlt, by simp⟩⟩
    · obtain ⟨es, c, h1, _⟩ := hr.lst lo (Nat.le_refl _) hlt
      exact ⟨(hr.b2 lo (Nat.le_refl _) hlt).1, .inr ⟨by simp, es, c, h1⟩⟩
    · obtain ⟨es, c, h1, _⟩ := hr.top
      exact ⟨hr.b1, .inr ⟨by simp, es, c, h1⟩⟩)
  have sY := sh.keep K1 (by decide) (by decide) (by decide) (by simp [hr.d4.symm, d3.2.2.1.symm])
  have rY := hd.ring.keep K1 (by decide) (by decide)
  have aY : ∀ i, i < hi → Ans y (F.hb i) (nm i) i (ln i) S (eb i) := fun i h => (hd.ans i h).keep K1 (by decide)
  have hBy : B ≤ y.heap.size := Nat.le_trans hB K0.size
  obtain ⟨_, _, _, c77, c78, _⟩ := (aY lo hlt).cells
  refine ⟨c77, sY.hS.cell 2 _ rfl, c78, ?_⟩
  have sY' : Sh y.drew B O S FB mR mS L oc ob sb := sY.keep (Kept.drew (Kept.refl [] [] B y)) (by decide) (by decide) (by decide) (by simp)
  have rY' : Ring y.drew B L eb F.hb lo hi := rY.keep (Kept.drew (Kept.refl [] [] B y)) (by decide) (by decide)
  have RY' : Reps y.drew B mR mS nm F (lo + 1) hi := RY.keep (Kept.drew (Kept.refl [] [] B y)) (by decide) (by decide) (by simp) (by simp)
  have aY' : ∀ i, i < hi → Ans y.drew (F.hb i) (nm i) i (ln i) S (eb i) := fun i h => (aY i h).keep (Kept.drew (Kept.refl [] [] B y)) (by decide)
  refine (remove_any y.drew B L eb F.hb lo hi rY' hBy hlt (by omega)).mono ?_
  rintro e z ⟨he, rZ, KZ⟩
  have sZ := sY'.keep KZ (by decide) (by decide) (by decide) (by simp)
  have RZ := RY'.keep KZ (by decide) (by decide) (by simp) (by simp)
  have aZ : ∀ i, i < hi → Ans z (F.hb i) (nm i) i (ln i) S (eb i) := fun i h => (aY' i h).keep KZ (by decide)
  have hBz : B ≤ z.heap.size := Nat.le_trans hBy KZ.size
  obtain ⟨_, _, _, z77, _, _⟩ := (aZ lo hlt).cells
  refine ⟨he, z77, ?_⟩
  by_cases hl : lo + 1 < hi
  · refine (resize_more z B O S FB mR mS L oc ob sb (-(256 + (ln lo : Int))) _ sZ hBz ⟨_, rZ.root, rfl⟩ (by omega) (by omega) (by omega) (by omega) (by omega)).mono ?_
    rintro e w' ⟨rfl, s', k'⟩
    refine ⟨rfl, ⟨[F.lm (nm lo), mR], ?_⟩, ⟨rZ.keep k' (by decide) (by decide), RZ.keep k' (by decide) (by decide) (by simp) (by simp), fun i h => (aZ i h).keep k' (by decide)⟩, fun _ => ?_, fun h => by omega⟩
    · exact K0.trans ((Kept.drew (Kept.refl dT [F.lm (nm lo), mR] B y)).trans ((KZ.mono (by decide) (by simp)).trans (k'.mono (by decide) (by simp))))
    · rw [Int.sub_eq_add_neg, Int.sub_eq_add_neg]
      exact ⟨_, s'⟩
  · have e0 : hi = lo + 1 := by omega
    subst e0
    refine (resize_last z B O S FB mR mS L oc ob sb (-(256 + (ln lo : Int))) sZ hBz ⟨_, rZ.root, by simp⟩ (by omega) (by omega) (by omega) (by omega)).mono ?_
    rintro e w' ⟨rfl, ⟨oc', o0, o4, o5, o6, o7⟩, s', m', k'⟩
    refine ⟨rfl, ⟨[F.lm (nm lo), mR, mS], ?_⟩, ⟨rZ.keep k' (by decide) (by decide), RZ.keep k' (by decide) (by decide) (by simp [hr.d4]) (by omega), fun i h => (aZ i h).keep k' (by decide)⟩, fun h => by omega, fun _ => ?_⟩
    · exact (K0.mono (fun _ h => h) (by simp)).trans ((Kept.drew (Kept.refl dT _ B y)).trans ((KZ.mono (by decide) (by simp)).trans (k'.mono (by decide) (by simp))))
    · rw [Int.sub_eq_add_neg]
      exact ⟨⟨oc', o0, o4, o5, ⟨_, _, o6⟩, o7⟩, s', m'⟩

theorem drop_any (hd : Held w B S mR mS L nm ln F eb lo hi) (sh : Sh w B O S FB mR mS L oc ob sb) (hB : B ≤ w.heap.size) (hlt : lo < hi) (hh : hi ≤ 1024) (hln : ln lo < 256) (hsz : (nm lo).size ≤ maxLen)
    (b1 : -1000000 < ob) (b2 : ob < 100000000) (b3 : -1000000 < sb) (b4 : sb < 100000000) :
    Calls Yba.prog 13 #[.pointer (some ⟨O, 0, none⟩), .pointer (some ⟨F.hb lo, 0, none⟩)] w fun e w' => e = .returned (.tuple #[]) ∧ (∃ M, Kept dT M B w w') ∧ Held w' B S mR mS L nm ln F eb (lo + 1) hi ∧ Own w' B O S FB mR mS L (lo + 1) hi (ob - (256 + (ln lo : Int))) (sb - (256 + (ln lo : Int))) := by
  have hr := hd.reps
  have d3 := hr.d3 lo (Nat.le_refl _) hlt
  have d2 := hr.d2 lo lo (Nat.le_refl _) hlt (Nat.le_refl _) hlt
  have vo := hr.vou lo (Nat.le_refl _) hlt
  have an := hd.ans lo hlt
  have ls := hr.lst lo (Nat.le_refl _) hlt
  obtain ⟨rc, hrc, rc0, rc1⟩ := hr.rep lo (Nat.le_refl _) hlt
  obtain ⟨fc, hfc⟩ := hr.emp lo (Nat.le_refl _) hlt
  obtain ⟨l, hl⟩ := key_ok lo (by omega)
  obtain ⟨a0, ⟨ba, bc, a36⟩, a76, a77, a78, ak⟩ := an.cells
  have inj : ∀ i, lo < i → i < hi → F.ab i ≠ F.ab lo := by
    intro i h1 h2 e
    have v := hr.vou i (by omega) h2
    rw [e] at v
    have q := v.inj vo
    have q' : F.hb i = F.hb lo := by simpa using q
    have x := hd.ans i h2
    rw [q'] at x
    have := x.inj an (by omega) (by omega)
    omega
  have hlast : ∃ last : Bool, (last = false → ∃ j, lo + 1 ≤ j ∧ j < hi ∧ nm j = nm lo) ∧ (last = true → ¬ ∃ j, lo + 1 ≤ j ∧ j < hi ∧ nm j = nm lo) := by
    by_cases h : ∃ j, lo + 1 ≤ j ∧ j < hi ∧ nm j = nm lo
    · exact ⟨false, fun _ => h, fun e => by cases e⟩
    · exact ⟨true, (fun e => by cases e), fun _ => h⟩
  obtain ⟨last, l1, l2⟩ := hlast
  refine drop_walk w O (F.hb lo) L S (F.ab lo) (F.rb (nm lo)) mR (F.lm (nm lo)) (F.fm (nm lo)) (eb lo) (nm lo) (kp lo) (kq lo) (ln lo) ba bc last _ hln (sh.hO.cell _ _ sh.o4) a0 a76 (fun m => ?_) (hrc.cell _ _ rc0) (fun m => ?_) (fun m => ?_) (vo.cell 0 _ rfl) (vo.cell 1 _ rfl) (vo.loose 0) ?_
  · exact (Ans.cells (hd.ans lo hlt |>.keep (Kept.of_only (only_drewN (Only.refl [] w) m) hB (by simp) : Kept [] [] B w (w.drewN m)) (by decide))).2.2.2.2.2
  · exact (hr.top.drewN m).hit strLaw Yba.underlying31 (str_key _ hsz) ⟨lo, Nat.le_refl _, hlt, rfl, rfl⟩
  · exact (ls.drewN m).hit keyLaw Yba.underlying68 hl ⟨lo, Nat.le_refl _, hlt, rfl, rfl, rfl⟩
  · intro m x hx
    have O1 : Only [F.ab lo] w x := by rw [hx]; exact (only_drewN (Only.refl _ w) m).setCell _ (by simp) _
    have K1 : Kept [73] [] B w x := Kept.of_only O1 hB (by
      intro k hk
      simp only [List.mem_cons, List.not_mem_nil, or_false] at hk
      subst hk
      exact ⟨(hr.b2 lo (Nat.le_refl _) hlt).2, .inl ⟨_, _, vo, by simp⟩⟩)
    have vx : At x (F.ab lo) #[.pointer none, .pointer none] 73 := by rw [hx]; exact (vo.drewN m).same 0 _
    have rx : At x (F.rb (nm lo)) rc 70 := K1.cells _ _ _ (by decide) hrc
    have ax : Ans x.drew _ _ _ _ _ _ := an.keep K1.drew (by decide)
    have lx : KMap x.drew 52 (F.lm (nm lo)) _ := ls.keep K1.drew (by simp)
    obtain ⟨w2, hdel, m2, O2⟩ := lx.del keyLaw Yba.underlying68 hl 1 ⟨lo, Nat.le_refl _, hlt, rfl, rfl, rfl⟩
    have O2' : Only [F.ab lo, F.lm (nm lo), mR] w w2 := ((O1.drew).mono (by simp)).trans (O2.mono (by simp))
    have nA : ∀ {cs : Array Value} {k t : Nat}, At w k cs t → t ≠ 73 → k ∉ [F.ab lo, F.lm (nm lo), mR] := fun h ht => by
      simp only [List.mem_cons, List.not_mem_nil, or_false, not_or]
      exact ⟨h.ne vo ht, ls.neAt h, hr.top.neAt h⟩
    have r2 : At w2 (F.rb (nm lo)) rc 70 := hrc.keep O2' (nA hrc (by decide))
    have h2 : ∀ {j : Nat} {v : Value}, w.cell? ⟨F.hb lo, j, none⟩ = some v → w2.cell? ⟨F.hb lo, j, none⟩ = some v := fun {j v} h => by
      obtain ⟨hc, h0, _⟩ := an
      rw [World.cell?_of_block (w := w) (O2'.block _ h0.lt (nA h0 (by decide)))]
      exact h
    obtain ⟨es, c, hes, hz⟩ := m2.len
    refine ⟨vx.cell 0 _ rfl, vx.cell 1 _ rfl, rx.cell 0 _ rc0, ax.cells.2.2.2.2.2, w2, hdel, h2 a36, r2.cell 0 _ rc0, (es.size : Int), len_map w2 68 52 71 3 Yba.underlying68 _ es c hes, fun hf => ?_, fun ht => ?_⟩
    · obtain ⟨j, j1, j2, j3⟩ := l1 hf
      have hne : es.size ≠ 0 := fun e => (hz.1 e) (K j) (.pointer (some ⟨F.ab j, 0, none⟩)) ⟨⟨j, by omega, j2, j3, rfl, rfl⟩, fun e' => by have := K_inj (by omega) (by omega) e'; omega⟩
      refine ⟨by omega, drop_tail hd sh hB hlt hh hln b1 b2 b3 b4 w2 O2' (hr.step hlt hh inj O2' ?_ (fun _ => m2))⟩
      obtain ⟨es', c', t1, t2⟩ := hr.top
      have tt : KMap w2 9 mR (TopR nm F lo hi) := ⟨es', c', by
        refine O2.at ?_ (show x.drew.heap[mR]? = _ from K1.maps _ _ _ (by simp) t1)
        simp only [List.mem_singleton]
        exact d3.1.symm, t2⟩
      refine tt.congr fun y u => ?_
      constructor
      · rintro ⟨i, i1, i2, i3, i4⟩
        exact ⟨i, by omega, i2, i3, i4⟩
      · rintro ⟨i, i1, i2, i3, i4⟩
        by_cases e : i = lo
        · subst e
          exact ⟨j, j1, j2, by rw [j3]; exact i3, by rw [j3]; exact i4⟩
        · exact ⟨i, by omega, i2, i3, i4⟩
    · have hno := l2 ht
      have h0 : es.size = 0 := hz.2 (by
        rintro y u ⟨⟨j, j1, j2, j3, rfl, j5⟩, hne⟩
        by_cases e : j = lo
        · exact hne (by rw [e])
        · exact hno ⟨j, by omega, j2, j3⟩)
      have f2 : w2.heap[F.fm (nm lo)]? = some (.map #[] fc) := O2'.at (by
        simp only [List.mem_cons, List.not_mem_nil, or_false, not_or]
        exact ⟨fun e' => vo.neMap hfc e'.symm, d2, d3.2.1⟩) hfc
      refine ⟨by omega, r2.cell 1 _ rc1, fc, run_range_map w2 45 52 54 _ #[] fc Yba.underlying45 f2, ?_⟩
      intro y hy
      have OY : Only [F.ab lo, F.lm (nm lo), mR] w y := by rw [hy]; exact O2'.alloc _
      have hcY : ∀ {cs : Array Value} {k t : Nat}, At w k cs t → t ≠ 73 → At y k cs t := fun h ht => h.keep OY (nA h ht)
      have tt : KMap y.drew 9 mR (TopR nm F lo hi) := by
        obtain ⟨es', c', t1, t2⟩ := hr.top
        refine ⟨es', c', ?_, t2⟩
        have q2 : w2.heap[mR]? = some (.map es' c') := by
          refine O2.at ?_ (show x.drew.heap[mR]? = _ from K1.maps _ _ _ (by simp) t1)
          simp only [List.mem_singleton]
          exact d3.1.symm
        show y.heap[mR]? = _
        rw [hy]
        exact ((Only.refl [] w2).alloc _).at (by simp) q2
      obtain ⟨w3, hdel3, m3, O3⟩ := tt.del strLaw Yba.underlying31 (str_key _ hsz) 1 ⟨lo, Nat.le_refl _, hlt, rfl, rfl⟩
      refine ⟨fun ty => ?_, (hcY sh.hO (by decide)).cell _ _ sh.o4, ?_, w3, hdel3, drop_tail hd sh hB hlt hh hln b1 b2 b3 b4 w3 (OY.drew.trans (O3.mono (by simp))) (hr.step hlt hh inj (OY.drew.trans (O3.mono (by simp))) (m3.congr ?_) (fun h => absurd h hno))⟩
      · rw [hy]
        exact next_empty w2 ty _ fc f2
      · obtain ⟨hc, q0, q1, _⟩ := an
        exact (hcY q0 (by decide)).cell _ _ q1
      · intro y u
        constructor
        · rintro ⟨i, i1, i2, rfl, i4⟩
          refine ⟨⟨i, by omega, i2, rfl, i4⟩, fun e => hno ⟨i, i1, i2, ?_⟩⟩
          exact Value.string.inj e
        · rintro ⟨⟨i, i1, i2, rfl, i4⟩, hne⟩
          have : i ≠ lo := fun e => hne (by rw [e])
          exact ⟨i, by omega, i2, rfl, i4⟩
end
end Go.Proofs.Ybulkaccc
