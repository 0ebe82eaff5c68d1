/- Plain laws for LawS1401CModel. No program here. -/
import Derived.Test.YbulkabzkFmtPlain
namespace Go.Proofs.YbulkabzkFmt

theorem addUp_min (a b m : Int) : (if m < a + b then m else a + b) = addUp a b m := by
  unfold addUp
  split <;> split <;> omega

theorem maxTo_first (a : Int) (f : Nat → Int) : ∀ k, 1 ≤ k → maxTo a f k = maxTo (if a < f 0 then f 0 else a) f k
  | 0, h => by omega
  | 1, _ => by simp only [maxTo]; split <;> (try split) <;> omega
  | k + 2, _ => by
    have ih := maxTo_first a f (k + 1) (by omega)
    show (if maxTo a f (k + 1) < f (k + 1) then f (k + 1) else maxTo a f (k + 1)) = (if maxTo (if a < f 0 then f 0 else a) f (k + 1) < f (k + 1) then f (k + 1) else maxTo (if a < f 0 then f 0 else a) f (k + 1))
    rw [← ih]

theorem maxTo_top (a c : Int) (f : Nat → Int) : ∀ k, maxTo (if a < c then c else a) f k = (if a < maxTo c f k then maxTo c f k else a)
  | 0 => rfl
  | k + 1 => by
    have ih := maxTo_top a c f k
    simp only [maxTo]
    rw [ih]
    by_cases h1 : a < maxTo c f k <;> by_cases h2 : maxTo c f k < f k <;> by_cases h3 : a < f k <;> simp only [h1, h2, h3, if_true, if_false] <;> omega

theorem step_eq (f : Nat → Int) (n : Nat) (h : 1 ≤ n) (l : Int) : (if maxTo 1 f n < l then l else maxTo 1 f n) = max3 1 (maxTo (f 0) f n) l := by
  rw [maxTo_first 1 f n h, maxTo_top]
  rfl

/-- Not the round's first opening bet. -/
def foldOk (S : St) : Bool := !(S.dueB && S.opened == 0)
theorem foldB_no {S : St} (h : foldOk S = false) : S.foldB = false := by
  unfold foldOk at h
  unfold St.foldB
  rw [h]; rfl
theorem foldB_lt {S : St} (h : foldOk S = true) (hl : S.spent S.actor < S.largest) : S.foldB = true := by
  unfold foldOk at h
  unfold St.foldB
  rw [h]; simp [hl]
theorem foldB_ge {S : St} (h : foldOk S = true) (hl : ¬ S.spent S.actor < S.largest) : S.foldB = S.ff := by
  unfold foldOk at h
  unfold St.foldB
  rw [h]; simp [hl]

theorem raise_due {S : St} (hd : S.dueB = true) : S.raiseB = true ∧ S.least = addUp S.roundBet S.dueBet S.stackA ∧ S.most = addUp S.roundBet S.dueBet S.stackA := by
  simp [St.raiseB, St.least, St.most, hd]
theorem raise_no {S : St} (hd : S.dueB = false) (h : S.capB = true ∨ S.stackA ≤ S.largest ∨ S.can < 2 ∨ 2 ≤ S.kind) : S.raiseB = false ∧ S.least = 0 ∧ S.most = 0 := by
  have hr : S.raiseB = false := by
    rcases h with h | h | h | h
    · simp [St.raiseB, hd, h]
    · have : ¬ S.largest < S.stackA := by omega
      simp [St.raiseB, hd, this]
    · have : ¬ 2 ≤ S.can := by omega
      simp [St.raiseB, hd, this]
    · have : ¬ S.kind ≤ 1 := by omega
      simp [St.raiseB, hd, this]
  simp [hr, St.least, St.most, hd]
theorem raise_lim {S : St} (hd : S.dueB = false) (hc : S.capB = false) (hl : S.largest < S.stackA) (h2 : 2 ≤ S.can) (hk : S.kind = 0) :
    S.raiseB = true ∧ S.least = addUp S.largest S.rsize S.stackA ∧ S.most = addUp S.largest S.rsize S.stackA := by
  have hr : S.raiseB = true := by simp [St.raiseB, hd, hc, hl, h2, hk]
  simp [hr, St.least, St.most, hd, hk]
theorem raise_nol {S : St} (hd : S.dueB = false) (hc : S.capB = false) (hl : S.largest < S.stackA) (h2 : 2 ≤ S.can) (hk : S.kind = 1) :
    S.raiseB = true ∧ S.least = addUp S.largest S.step S.stackA ∧ S.most = S.stackA := by
  have hr : S.raiseB = true := by simp [St.raiseB, hd, hc, hl, h2, hk]
  simp [hr, St.least, St.most, hd, hk]
end Go.Proofs.YbulkabzkFmt
