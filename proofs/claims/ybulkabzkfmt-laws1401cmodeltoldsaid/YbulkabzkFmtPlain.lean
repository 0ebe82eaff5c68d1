/- Plain data of a hand of poker as the law builds it, and plain functions on it. No program here. -/
import Derived.Below
namespace Go.Proofs.YbulkabzkFmt
open Go.RowKit

/-- What a hand and its game hold. -/
structure St where
  n : Nat
  kind : Nat
  stacks : Nat → Int
  blinds : Nat → Int
  spent : Nat → Int
  folded : Nat → Bool
  actor : Nat
  opn : Bool
  nops : Nat
  ops : Nat → Int
  opened : Nat
  capped : Bool
  cap : Int
  raises : Int
  rsize : Int
  roundBet : Int
  lraise : Int
  ff : Bool

structure St.Ok (S : St) : Prop where
  n2 : 2 ≤ S.n
  n8 : S.n ≤ 8
  stk0 : ∀ i, i < S.n → 0 ≤ S.stacks i
  stk1 : ∀ i, i < S.n → S.stacks i ≤ 65535
  bl0 : ∀ i, i < S.n → 0 ≤ S.blinds i
  bl1 : ∀ i, i < S.n → S.blinds i ≤ 255
  sp0 : ∀ i, i < S.n → 0 ≤ S.spent i
  sp1 : ∀ i, i < S.n → S.spent i ≤ S.stacks i
  act : S.actor < S.n
  nops4 : S.nops ≤ 4
  ops0 : ∀ i, i < S.nops → 0 ≤ S.ops i
  ops1 : ∀ i, i < S.nops → S.ops i ≤ 255
  opened1 : S.opened ≤ 5
  cap0 : 0 ≤ S.cap
  cap1 : S.cap ≤ 127
  raises0 : 0 ≤ S.raises
  raises1 : S.raises ≤ 4
  rsize0 : 0 ≤ S.rsize
  rsize1 : S.rsize ≤ 255
  rb0 : 0 ≤ S.roundBet
  rb1 : S.roundBet ≤ 65535
  lr0 : 0 ≤ S.lraise
  lr1 : S.lraise ≤ 65535

/-- The largest of a and the first k of f. -/
def maxTo (a : Int) (f : Nat → Int) : Nat → Int
  | 0 => a
  | k + 1 => if maxTo a f k < f k then f k else maxTo a f k

theorem maxTo_bd {a b : Int} {f : Nat → Int} (ha : a ≤ b) : ∀ k, (∀ i, i < k → f i ≤ b) → a ≤ maxTo a f k ∧ maxTo a f k ≤ b
  | 0, _ => ⟨Int.le_refl _, ha⟩
  | k + 1, h => by
    have ih := maxTo_bd (f := f) ha k (fun i hi => h i (by omega))
    have hk := h k (by omega)
    simp only [maxTo]
    split <;> omega

theorem maxTo_max (a c : Int) (f : Nat → Int) : ∀ k, maxTo (max a c) f k = max a (maxTo c f k)
  | 0 => rfl
  | k + 1 => by
    have ih := maxTo_max a c f k
    simp only [maxTo]
    rw [ih]
    split <;> split <;> omega

theorem maxTo_ge (a : Int) (f : Nat → Int) : ∀ k i, i < k → f i ≤ maxTo a f k
  | 0, _, h => by omega
  | k + 1, i, h => by
    have ih := maxTo_ge a f k i
    simp only [maxTo]
    by_cases hi : i = k
    · subst hi; split <;> omega
    · have := ih (by omega)
      split <;> omega

/-- The largest bet. -/
def St.largest (S : St) : Int := maxTo 0 S.spent S.n

def canActB (S : St) (p : Nat) : Bool := !S.folded p && decide (S.spent p < S.stacks p)

/-- How many of the first k can act. -/
def cntTo (S : St) : Nat → Nat
  | 0 => 0
  | k + 1 => cntTo S k + (if canActB S k then 1 else 0)

theorem cntTo_le (S : St) : ∀ k, cntTo S k ≤ k
  | 0 => Nat.le_refl _
  | k + 1 => by
    have := cntTo_le S k
    simp only [cntTo]
    split <;> omega

def St.can (S : St) : Nat := cntTo S S.n

/-- callTo. -/
def St.callTo (S : St) : Int := if S.stacks S.actor < S.largest then S.stacks S.actor else S.largest

/-- addUpTo. -/
def addUp (a b most : Int) : Int := if most - a ≤ b then most else a + b

/-- Is an opening bet due, and which. -/
def St.dueB (S : St) : Bool := S.opn && decide (S.opened < S.nops)
def St.dueBet (S : St) : Int := if S.dueB then S.ops S.opened else 0

/-- May the actor fold. -/
def St.foldB (S : St) : Bool := !(S.dueB && S.opened == 0) && (decide (S.spent S.actor < S.largest) || S.ff)

def betOf (k : Nat) : ByteArray := if k = 0 then ⟨#[108, 105, 109, 105, 116]⟩ else if k = 1 then ⟨#[110, 111, 108, 105, 109, 105, 116]⟩ else ⟨#[112, 111, 116]⟩

def St.stackA (S : St) : Int := S.stacks S.actor
def St.capB (S : St) : Bool := S.capped && decide (S.cap ≤ S.raises)
def max3 (a b c : Int) : Int := if (if a < b then b else a) < c then c else (if a < b then b else a)
def St.step (S : St) : Int := max3 1 (maxTo (S.blinds 0) S.blinds S.n) S.lraise
/-- May the actor raise, and from what to what. -/
def St.raiseB (S : St) : Bool := S.dueB || (!S.capB && decide (S.largest < S.stackA) && decide (2 ≤ S.can) && decide (S.kind ≤ 1))
def St.least (S : St) : Int :=
  if S.dueB then addUp S.roundBet S.dueBet S.stackA else if S.raiseB then (if S.kind = 0 then addUp S.largest S.rsize S.stackA else addUp S.largest S.step S.stackA) else 0
def St.most (S : St) : Int :=
  if S.dueB then addUp S.roundBet S.dueBet S.stackA else if S.raiseB then (if S.kind = 0 then addUp S.largest S.rsize S.stackA else S.stackA) else 0

theorem St.Ok.large {S : St} (h : S.Ok) : 0 ≤ S.largest ∧ S.largest ≤ 65535 :=
  maxTo_bd (by decide) S.n (fun i hi => Int.le_trans (h.sp1 i hi) (h.stk1 i hi))

theorem St.Ok.stackA0 {S : St} (h : S.Ok) : 0 ≤ S.stackA ∧ S.stackA ≤ 65535 := ⟨h.stk0 _ h.act, h.stk1 _ h.act⟩

/-- Where a hand's parts lie: block numbers. -/
structure Loc where
  h : Nat
  g : Nat
  bst : Nat
  bbl : Nat
  bsp : Nat
  bfo : Nat
  brs : Nat
  bop : Nat
  bpp : Nat
  bcp : Nat

/-- The hand S lies in memory at L. -/
structure HandAt (w : World) (L : Loc) (S : St) : Prop where
  h0 : w.cell? ⟨L.h, 0, none⟩ = some (.pointer (some ⟨L.g, 0, none⟩))
  h3 : w.cell? ⟨L.h, 3, none⟩ = some (.slice (some ⟨L.bsp, 0, none⟩) S.n S.n)
  h4 : w.cell? ⟨L.h, 4, none⟩ = some (.slice (some ⟨L.bfo, 0, none⟩) S.n S.n)
  h6 : w.cell? ⟨L.h, 6, none⟩ = some (.int .i64 0)
  h7 : w.cell? ⟨L.h, 7, none⟩ = some (.int .i64 S.raises)
  h8 : w.cell? ⟨L.h, 8, none⟩ = some (.int .i64 S.opened)
  h9 : w.cell? ⟨L.h, 9, none⟩ = some (.int .i64 S.roundBet)
  h10 : w.cell? ⟨L.h, 10, none⟩ = some (.int .i64 S.lraise)
  h12 : w.cell? ⟨L.h, 12, none⟩ = some (.int .i64 S.actor)
  g0 : w.cell? ⟨L.g, 0, none⟩ = some (.string (betOf S.kind))
  g1 : w.cell? ⟨L.g, 1, none⟩ = some (.int .i64 S.n)
  g3 : w.cell? ⟨L.g, 3, none⟩ = some (.slice (some ⟨L.bbl, 0, none⟩) S.n S.n)
  g5f : S.opn = false → w.cell? ⟨L.g, 5, none⟩ = some (.slice none 0 0)
  g5t : S.opn = true → w.cell? ⟨L.g, 5, none⟩ = some (.slice (some ⟨L.bop, 0, none⟩) 1 1)
  op0 : S.opn = true → w.cell? ⟨L.bop, 0, none⟩ = some (.slice (some ⟨L.bpp, 0, none⟩) S.nops 4)
  opi : S.opn = true → ∀ i, i < S.nops → w.cell? ⟨L.bpp, i, none⟩ = some (.int .i64 (S.ops i))
  g6 : w.cell? ⟨L.g, 6, none⟩ = some (.slice (some ⟨L.brs, 0, none⟩) 1 1)
  rs : w.cell? ⟨L.brs, 0, none⟩ = some (.int .i64 S.rsize)
  g8f : S.capped = false → w.cell? ⟨L.g, 8, none⟩ = some (.slice none 0 0)
  g8t : S.capped = true → w.cell? ⟨L.g, 8, none⟩ = some (.slice (some ⟨L.bcp, 0, none⟩) 1 1)
  cp : S.capped = true → w.cell? ⟨L.bcp, 0, none⟩ = some (.int .i64 S.cap)
  g9 : w.cell? ⟨L.g, 9, none⟩ = some (.bool S.ff)
  g14 : w.cell? ⟨L.g, 14, none⟩ = some (.slice (some ⟨L.bst, 0, none⟩) S.n S.n)
  sti : ∀ i, i < S.n → w.cell? ⟨L.bst, i, none⟩ = some (.int .i64 (S.stacks i))
  bli : ∀ i, i < S.n → w.cell? ⟨L.bbl, i, none⟩ = some (.int .i64 (S.blinds i))
  spi : ∀ i, i < S.n → w.cell? ⟨L.bsp, i, none⟩ = some (.int .i64 (S.spent i))
  foi : ∀ i, i < S.n → w.cell? ⟨L.bfo, i, none⟩ = some (.bool (S.folded i))

theorem cellLater {w wx : World} {a : Addr} {v : Value} (hb : Below w.heap.size w wx) (h : w.cell? a = some v) : wx.cell? a = some v :=
  (hb.cell (World.block_lt_of_cell? _ _ h)).trans h

theorem HandAt.later {w w' : World} {L : Loc} {S : St} (H : HandAt w L S) (hb : Below w.heap.size w w') : HandAt w' L S where
  h0 := cellLater hb H.h0
  h3 := cellLater hb H.h3
  h4 := cellLater hb H.h4
  h6 := cellLater hb H.h6
  h7 := cellLater hb H.h7
  h8 := cellLater hb H.h8
  h9 := cellLater hb H.h9
  h10 := cellLater hb H.h10
  h12 := cellLater hb H.h12
  g0 := cellLater hb H.g0
  g1 := cellLater hb H.g1
  g3 := cellLater hb H.g3
  g5f := fun h => cellLater hb (H.g5f h)
  g5t := fun h => cellLater hb (H.g5t h)
  op0 := fun h => cellLater hb (H.op0 h)
  opi := fun h i hi => cellLater hb (H.opi h i hi)
  g6 := cellLater hb H.g6
  rs := cellLater hb H.rs
  g8f := fun h => cellLater hb (H.g8f h)
  g8t := fun h => cellLater hb (H.g8t h)
  cp := fun h => cellLater hb (H.cp h)
  g9 := cellLater hb H.g9
  g14 := cellLater hb H.g14
  sti := fun i hi => cellLater hb (H.sti i hi)
  bli := fun i hi => cellLater hb (H.bli i hi)
  spi := fun i hi => cellLater hb (H.spi i hi)
  foi := fun i hi => cellLater hb (H.foi i hi)

end Go.Proofs.YbulkabzkFmt
