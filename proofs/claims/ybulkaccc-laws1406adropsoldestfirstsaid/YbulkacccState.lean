/- Keys, answers, repositories: what lies in memory, in plain words. -/
import Derived.Test.YbulkacccResize
set_option linter.unusedVariables false
set_option linter.unusedSimpArgs false
namespace Go.Proofs.Ybulkaccc
open Go.RowKit Go.WideMaps Go.MapKept

/-- A key's cells: the two bytes that the law sets, and thirty zeros. -/
def kb (p q : Int) : Array Value := #[.int .u8 p, .int .u8 q, .int .u8 0, .int .u8 0, .int .u8 0, .int .u8 0, .int .u8 0, .int .u8 0, .int .u8 0, .int .u8 0, .int .u8 0, .int .u8 0, .int .u8 0, .int .u8 0, .int .u8 0, .int .u8 0, .int .u8 0, .int .u8 0, .int .u8 0, .int .u8 0, .int .u8 0, .int .u8 0, .int .u8 0, .int .u8 0, .int .u8 0, .int .u8 0, .int .u8 0, .int .u8 0, .int .u8 0, .int .u8 0, .int .u8 0, .int .u8 0]
def kp (i : Nat) : Int := ((i % 256 : Nat) : Int)
def kq (i : Nat) : Int := ((i / 256 : Nat) : Int)
def K (i : Nat) : Value := .agg (kb (kp i) (kq i))

theorem kb_get (p q : Int) (k : Nat) (h : k < 32) : (kb p q)[k]? = some (.int .u8 (if k = 0 then p else if k = 1 then q else 0)) := by
  rcases k with _ | _ | k
  · rfl
  · rfl
  · have : ∀ k, k < 30 → (kb p q)[k + 1 + 1]? = some (.int .u8 0) := by
      intro k hk
      have hc : k = 0 ∨ k = 1 ∨ k = 2 ∨ k = 3 ∨ k = 4 ∨ k = 5 ∨ k = 6 ∨ k = 7 ∨ k = 8 ∨ k = 9 ∨ k = 10 ∨ k = 11 ∨ k = 12 ∨ k = 13 ∨ k = 14 ∨ k = 15 ∨ k = 16 ∨ k = 17 ∨ k = 18 ∨ k = 19 ∨ k = 20 ∨ k = 21 ∨ k = 22 ∨ k = 23 ∨ k = 24 ∨ k = 25 ∨ k = 26 ∨ k = 27 ∨ k = 28 ∨ k = 29 := by omega
      rcases hc with rfl | rfl | rfl | rfl | rfl | rfl | rfl | rfl | rfl | rfl | rfl | rfl | rfl | rfl | rfl | rfl | rfl | rfl | rfl | rfl | rfl | rfl | rfl | rfl | rfl | rfl | rfl | rfl | rfl | rfl <;> rfl
    rw [this k (by omega)]
    simp

theorem K_inj {i j : Nat} (hi : i < 1024) (hj : j < 1024) (h : K i = K j) : i = j := by
  have h1 : kb (kp i) (kq i) = kb (kp j) (kq j) := by
    simp only [K] at h
    exact Value.agg.inj h
  have a := congrArg (fun x : Array Value => x[0]?) h1
  have b := congrArg (fun x : Array Value => x[1]?) h1
  simp only [kb_get _ _ 0 (by decide), kb_get _ _ 1 (by decide)] at a b
  simp [kp, kq] at a b
  omega

theorem mapM_some {α β : Type} {f : α → Option β} : ∀ (l : List α), (∀ x ∈ l, ∃ y, f x = some y) → ∃ ys, l.mapM f = some ys
  | [], _ => ⟨[], by simp⟩
  | x :: l, h => by
    obtain ⟨y, hy⟩ := h x (by simp)
    obtain ⟨ys, hys⟩ := mapM_some l (fun z hz => h z (by simp [hz]))
    exact ⟨y :: ys, by simp [List.mapM_cons, hy, hys]⟩

theorem cells5 : Yba.prog.cellsOf 5 = 1 := by kernel_rfl
theorem cells52 : Yba.prog.cellsOf 52 = 32 := by kernel_rfl
theorem keyT52 : Yba.prog.keyType 52 = true := by kernel_rfl

theorem key_ok (i : Nat) (hi : i < 1024) : ∃ l, keyOf Yba.prog 52 (K i) = some l := by
  have hp : 0 ≤ kp i ∧ kp i < 256 := by simp only [kp]; omega
  have hq : 0 ≤ kq i ∧ kq i < 256 := by simp only [kq]; omega
  have hf : (K i).formed Yba.prog 52 = true := by
    simp [K, Value.formed, Yba.underlying52, cells52, kb]
  have hm : ∃ ys, (List.range 32).mapM (fun k => Yba.prog.keyLits Yba.prog.types.size 5 (((kb (kp i) (kq i)).toList.drop (k * Yba.prog.cellsOf 5)).take (Yba.prog.cellsOf 5))) = some ys := by
    refine mapM_some _ fun k hk => ?_
    have hk' : k < 32 := by simpa using hk
    have hd : ((kb (kp i) (kq i)).toList.drop (k * 1)).take 1 = [.int .u8 (if k = 0 then kp i else if k = 1 then kq i else 0)] := by
      have hl : k < (kb (kp i) (kq i)).toList.length := by simpa [kb] using hk'
      rw [Nat.mul_one, List.drop_eq_getElem_cons hl]
      have := kb_get (kp i) (kq i) k hk'
      rw [Array.getElem?_eq_getElem (by simpa using hl)] at this
      simpa using this
    rw [cells5, hd]
    have ht : Yba.prog.types.size = (Yba.prog.types.size - 1) + 1 := by
      have : 0 < Yba.prog.types.size := of_decide_eq_true (by kernel_rfl)
      omega
    rw [ht]
    have hv : 0 ≤ (if k = 0 then kp i else if k = 1 then kq i else 0) ∧ (if k = 0 then kp i else if k = 1 then kq i else 0) < 256 := by
      split
      · exact hp
      · split
        · exact hq
        · decide
    generalize (if k = 0 then kp i else if k = 1 then kq i else 0) = v at hv
    refine ⟨[.int .u8 v], ?_⟩
    unfold Program.keyLits
    simp only [Yba.underlying5]
    rw [if_pos ⟨trivial, WalkArith.wf_u8 ⟨hv.1, by omega⟩⟩]
  obtain ⟨ys, hys⟩ := hm
  unfold keyOf
  simp only [Yba.underlying52, keyT52, hf, Bool.and_self, if_true]
  refine ⟨.string (keyBytes ys.flatten), ?_⟩
  unfold Program.keyLits
  simp only [Yba.underlying52, K, Value.cells]
  rw [if_pos (by rw [cells52]; simp [kb]), hys]
  rfl

/-- An answer that the law has made: listing i, of the repository s, with a body of n bytes. -/
def Ans (w : World) (H : Nat) (s : ByteArray) (i n S E : Nat) : Prop :=
  ∃ hc, At w H hc 65 ∧ hc[0]? = some (.string s) ∧ (∀ k, k < 32 → hc[1 + k]? = (kb (kp i) (kq i))[k]?) ∧ (∃ a c, hc[36]? = some (.slice a n c)) ∧ hc[76]? = some (.bool false) ∧
    hc[77]? = some (.pointer (some ⟨S, 0, none⟩)) ∧ hc[78]? = some (.pointer (some ⟨E, 0, none⟩))
theorem Ans.keep {T : List TypeId} {M : List Nat} {B : Nat} {w w' : World} {H : Nat} {s : ByteArray} {i n S E : Nat} (h : Ans w H s i n S E) (k : Kept T M B w w') (h1 : 65 ∉ T) : Ans w' H s i n S E := by
  obtain ⟨hc, h0, h2⟩ := h
  exact ⟨hc, k.cells _ _ _ h1 h0, h2⟩
theorem Ans.inj {w : World} {H : Nat} {s s' : ByteArray} {i j n n' S S' E E' : Nat} (h : Ans w H s i n S E) (h' : Ans w H s' j n' S' E') (hi : i < 1024) (hj : j < 1024) : i = j := by
  obtain ⟨hc, h0, _, h2, _⟩ := h
  obtain ⟨hc', h0', _, h2', _⟩ := h'
  have e := h0.inj h0'
  subst e
  have a := (h2 0 (by decide)).symm.trans (h2' 0 (by decide))
  have b := (h2 1 (by decide)).symm.trans (h2' 1 (by decide))
  rw [kb_get _ _ 0 (by decide), kb_get _ _ 0 (by decide)] at a
  rw [kb_get _ _ 1 (by decide), kb_get _ _ 1 (by decide)] at b
  simp [kp, kq] at a b
  omega

/-- Where things lie. -/
structure Where where
  hb : Nat → Nat
  ab : Nat → Nat
  rb : ByteArray → Nat
  lm : ByteArray → Nat
  fm : ByteArray → Nat

/-- What the map of repositories holds. -/
def TopR (nm : Nat → ByteArray) (F : Where) (lo hi : Nat) (y u : Value) : Prop := ∃ i, lo ≤ i ∧ i < hi ∧ y = .string (nm i) ∧ u = .pointer (some ⟨F.rb (nm i), 0, none⟩)
/-- What the listings of the repository s hold. -/
def LstR (nm : Nat → ByteArray) (F : Where) (lo hi : Nat) (s : ByteArray) (y u : Value) : Prop := ∃ j, lo ≤ j ∧ j < hi ∧ nm j = s ∧ y = K j ∧ u = .pointer (some ⟨F.ab j, 0, none⟩)

/-- The listings lo .. hi - 1 are remembered, and no others. -/
structure Reps (w : World) (B mR mS : Nat) (nm : Nat → ByteArray) (F : Where) (lo hi : Nat) : Prop where
  top : KMap w 9 mR (TopR nm F lo hi)
  rep : ∀ i, lo ≤ i → i < hi → ∃ rc, At w (F.rb (nm i)) rc 70 ∧ rc[0]? = some (.map (some (F.lm (nm i)))) ∧ rc[1]? = some (.map (some (F.fm (nm i))))
  lst : ∀ i, lo ≤ i → i < hi → KMap w 52 (F.lm (nm i)) (LstR nm F lo hi (nm i))
  emp : ∀ i, lo ≤ i → i < hi → ∃ c, w.heap[F.fm (nm i)]? = some (.map #[] c)
  vou : ∀ i, lo ≤ i → i < hi → At w (F.ab i) #[.pointer (some ⟨F.hb i, 0, none⟩), .pointer none] 73
  d1 : ∀ i j, lo ≤ i → i < hi → lo ≤ j → j < hi → nm i ≠ nm j → F.lm (nm i) ≠ F.lm (nm j)
  d2 : ∀ i j, lo ≤ i → i < hi → lo ≤ j → j < hi → F.fm (nm i) ≠ F.lm (nm j)
  d3 : ∀ i, lo ≤ i → i < hi → F.lm (nm i) ≠ mR ∧ F.fm (nm i) ≠ mR ∧ F.lm (nm i) ≠ mS ∧ F.fm (nm i) ≠ mS
  d4 : mR ≠ mS
  b1 : B ≤ mR
  b2 : ∀ i, lo ≤ i → i < hi → B ≤ F.lm (nm i) ∧ B ≤ F.ab i

theorem Reps.keep {T : List TypeId} {M : List Nat} {B' : Nat} {w w' : World} {B mR mS : Nat} {nm : Nat → ByteArray} {F : Where} {lo hi : Nat} (h : Reps w B mR mS nm F lo hi) (k : Kept T M B' w w') (h1 : 70 ∉ T) (h2 : 73 ∉ T)
    (h3 : mR ∉ M) (h4 : ∀ i, lo ≤ i → i < hi → F.lm (nm i) ∉ M ∧ F.fm (nm i) ∉ M) : Reps w' B mR mS nm F lo hi where
  top := h.top.keep k h3
  rep i a b := by
    obtain ⟨rc, r1, r2⟩ := h.rep i a b
    exact ⟨rc, k.cells _ _ _ h1 r1, r2⟩
  lst i a b := (h.lst i a b).keep k (h4 i a b).1
  emp i a b := by
    obtain ⟨c, hc⟩ := h.emp i a b
    exact ⟨c, k.maps _ _ _ (h4 i a b).2 hc⟩
  vou i a b := k.cells _ _ _ h2 (h.vou i a b)
  d1 := h.d1
  d2 := h.d2
  d3 := h.d3
  d4 := h.d4
  b1 := h.b1
  b2 := h.b2

theorem Reps.step {w y : World} {B mR mS : Nat} {nm : Nat → ByteArray} {F : Where} {lo hi : Nat} (h : Reps w B mR mS nm F lo hi) (hlt : lo < hi) (hh : hi ≤ 1024) (inj : ∀ i, lo < i → i < hi → F.ab i ≠ F.ab lo)
    (O : Only [F.ab lo, F.lm (nm lo), mR] w y) (hT : KMap y 9 mR (TopR nm F (lo + 1) hi))
    (hK : (∃ j, lo + 1 ≤ j ∧ j < hi ∧ nm j = nm lo) → KMap y 52 (F.lm (nm lo)) (fun a u => LstR nm F lo hi (nm lo) a u ∧ a ≠ K lo)) : Reps y B mR mS nm F (lo + 1) hi where
  top := hT
  rep i a b := by
    obtain ⟨rc, r1, r2⟩ := h.rep i (by omega) b
    refine ⟨rc, r1.keep O ?_, r2⟩
    simp only [List.mem_cons, List.not_mem_nil, or_false, not_or]
    exact ⟨r1.ne (h.vou lo (Nat.le_refl _) hlt) (by decide), (h.lst lo (Nat.le_refl _) hlt).neAt r1, h.top.neAt r1⟩
  lst i a b := by
    by_cases e : nm i = nm lo
    · rw [e]
      refine (hK ⟨i, a, b, e⟩).congr fun y u => ?_
      constructor
      · rintro ⟨j, j1, j2, j3, rfl, j5⟩
        exact ⟨⟨j, by omega, j2, j3, rfl, j5⟩, fun e' => by have := K_inj (by omega) (by omega) e'; omega⟩
      · rintro ⟨⟨j, j1, j2, j3, rfl, j5⟩, hne⟩
        have : j ≠ lo := fun e' => hne (by rw [e'])
        exact ⟨j, by omega, j2, j3, rfl, j5⟩
    · obtain ⟨es, c, q1, q2⟩ := h.lst i (by omega) b
      have q : KMap y 52 (F.lm (nm i)) (LstR nm F lo hi (nm i)) := ⟨es, c, O.at (by
        simp only [List.mem_cons, List.not_mem_nil, or_false, not_or]
        exact ⟨fun e' => (h.vou lo (Nat.le_refl _) hlt).neMap q1 e'.symm, h.d1 i lo (by omega) b (Nat.le_refl _) hlt e, (h.d3 i (by omega) b).1⟩) q1, q2⟩
      refine q.congr fun y u => ?_
      constructor
      · rintro ⟨j, j1, j2, j3⟩
        exact ⟨j, by omega, j2, j3⟩
      · rintro ⟨j, j1, j2, j3, j4⟩
        have : j ≠ lo := fun e' => e (by rw [← j3, e'])
        exact ⟨j, by omega, j2, j3, j4⟩
  emp i a b := by
    obtain ⟨c, hc⟩ := h.emp i (by omega) b
    refine ⟨c, O.at ?_ hc⟩
    simp only [List.mem_cons, List.not_mem_nil, or_false, not_or]
    exact ⟨fun e' => (h.vou lo (Nat.le_refl _) hlt).neMap hc e'.symm, h.d2 i lo (by omega) b (Nat.le_refl _) hlt, (h.d3 i (by omega) b).2.1⟩
  vou i a b := by
    have v := h.vou i (by omega) b
    refine v.keep O ?_
    simp only [List.mem_cons, List.not_mem_nil, or_false, not_or]
    exact ⟨inj i (by omega) b, (h.lst lo (Nat.le_refl _) hlt).neAt v, h.top.neAt v⟩
  d1 i j a b c d := h.d1 i j (by omega) b (by omega) d
  d2 i j a b c d := h.d2 i j (by omega) b (by omega) d
  d3 i a b := h.d3 i (by omega) b
  d4 := h.d4
  b1 := h.b1
  b2 i a b := h.b2 i (by omega) b
end Go.Proofs.Ybulkaccc
