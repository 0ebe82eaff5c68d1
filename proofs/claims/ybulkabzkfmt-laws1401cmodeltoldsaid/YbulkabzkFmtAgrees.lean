/- LawS1401CRaiseAgrees: the walk. -/
import Derived.Test.YbulkabzkFmtSaid
import Derived.Test.YbulkabzkFmtChoices
set_option linter.unusedVariables false
set_option linter.unusedSimpArgs false
namespace Go.Proofs.YbulkabzkFmt
open Go.RowKit Go.Extern.Stop Go.Stop Go.Extern

/-- What the walks are told of the struct that came in: its fifteen fields, and what its slices lead to. -/
structure InAt (w : World) (kind actor opened cap raises rsize roundBet lraise : Int) (b1 o1 b2 o2 b3 o3 b4 o4 b5 o5 : Nat) (a1 a2 a3 a4 a5 : Option Addr) (l1 l2 l3 l4 l5 : Nat) (f1 f2 f3 f5 : Nat → Int) (f4 : Nat → Bool) : Prop where
  kd0 : 0 ≤ kind
  kd1 : kind ≤ 255
  ac0 : 0 ≤ actor
  ac1 : actor ≤ 255
  op0 : 0 ≤ opened
  op1 : opened ≤ 255
  cp0 : -128 ≤ cap
  cp1 : cap ≤ 127
  rs0 : 0 ≤ raises
  rs1 : raises ≤ 255
  rz0 : 0 ≤ rsize
  rz1 : rsize ≤ 255
  rb0 : 0 ≤ roundBet
  rb1 : roundBet ≤ 65535
  lr0 : 0 ≤ lraise
  lr1 : lraise ≤ 65535
  hl1 : (l1 : Int) ≤ 9223372036854775807
  hl2 : (l2 : Int) ≤ 9223372036854775807
  hl3 : (l3 : Int) ≤ 9223372036854775807
  hl4 : (l4 : Int) ≤ 9223372036854775807
  hl5 : (l5 : Int) ≤ 9223372036854775807
  h1 : ∀ i, i < l1 → a1 = some ⟨b1, o1, none⟩ ∧ w.cell? ⟨b1, o1 + i, none⟩ = some (.int .u16 (f1 i)) ∧ 0 ≤ f1 i ∧ f1 i ≤ 65535
  h2 : ∀ i, i < l2 → a2 = some ⟨b2, o2, none⟩ ∧ w.cell? ⟨b2, o2 + i, none⟩ = some (.int .u8 (f2 i)) ∧ 0 ≤ f2 i ∧ f2 i ≤ 255
  h3 : ∀ i, i < l3 → a3 = some ⟨b3, o3, none⟩ ∧ w.cell? ⟨b3, o3 + i, none⟩ = some (.int .u16 (f3 i)) ∧ 0 ≤ f3 i ∧ f3 i ≤ 65535
  h4 : ∀ i, i < l4 → a4 = some ⟨b4, o4, none⟩ ∧ w.cell? ⟨b4, o4 + i, none⟩ = some (.bool (f4 i))
  h5 : ∀ i, i < l5 → a5 = some ⟨b5, o5, none⟩ ∧ w.cell? ⟨b5, o5 + i, none⟩ = some (.int .u8 (f5 i)) ∧ 0 ≤ f5 i ∧ f5 i ≤ 255

theorem built (sb : BuildSaid) {w w' : World} {kind actor opened cap raises rsize roundBet lraise : Int} {b1 o1 b2 o2 b3 o3 b4 o4 b5 o5 : Nat} {a1 a2 a3 a4 a5 : Option Addr} {l1 l2 l3 l4 l5 : Nat} {f1 f2 f3 f5 : Nat → Int} {f4 : Nat → Bool}
    (I : InAt w kind actor opened cap raises rsize roundBet lraise b1 o1 b2 o2 b3 o3 b4 o4 b5 o5 a1 a2 a3 a4 a5 l1 l2 l3 l4 l5 f1 f2 f3 f5 f4) (hb : Below w.heap.size w w') (c1 c2 c3 c4 c5 : Nat) (useOp ff : Bool) :
    Calls Ybaf.prog 11 #[.agg #[.int .u8 kind, .slice a1 l1 c1, .slice a2 l2 c2, .slice a3 l3 c3, .slice a4 l4 c4, .int .u8 actor, .bool useOp, .slice a5 l5 c5, .int .u8 opened, .int .i8 cap, .int .u8 raises, .int .u8 rsize, .int .u16 roundBet, .int .u16 lraise, .bool ff]] w'
      fun e w'' => ∃ L S, e = .returned (.pointer (some ⟨L.h, 0, none⟩)) ∧ S.Ok ∧ HandAt w'' L S ∧ Below w'.heap.size w' w'' :=
  sb w' kind actor opened cap raises rsize roundBet lraise useOp ff b1 o1 b2 o2 b3 o3 b4 o4 b5 o5 a1 a2 a3 a4 a5 l1 c1 l2 c2 l3 c3 l4 c4 l5 c5 f1 f2 f3 f5 f4 I.kd0 I.kd1 I.ac0 I.ac1 I.op0 I.op1 I.cp0 I.cp1 I.rs0 I.rs1 I.rz0 I.rz1 I.rb0 I.rb1 I.lr0 I.lr1 I.hl1 I.hl2 I.hl3 I.hl4 I.hl5
    (fun i hi => ⟨(I.h1 i hi).1, cellLater hb (I.h1 i hi).2.1, (I.h1 i hi).2.2⟩) (fun i hi => ⟨(I.h2 i hi).1, cellLater hb (I.h2 i hi).2.1, (I.h2 i hi).2.2⟩) (fun i hi => ⟨(I.h3 i hi).1, cellLater hb (I.h3 i hi).2.1, (I.h3 i hi).2.2⟩)
    (fun i hi => ⟨(I.h4 i hi).1, cellLater hb (I.h4 i hi).2⟩) (fun i hi => ⟨(I.h5 i hi).1, cellLater hb (I.h5 i hi).2.1, (I.h5 i hi).2.2⟩)

def openI (S : St) : Int := if S.dueB then S.opened + 1 else 0
theorem choices_at (F : Interp) (w : World) (L : Loc) (S : St) (O : S.Ok) (H : HandAt w L S) (hF : F.answers w.tape) (a1 : Addr) (s1 : ByteArray) (a2 : Addr) (V : VarsAt w a1 s1 a2) :
    Calls Ybaf.prog 13 #[.pointer (some ⟨L.h, 0, none⟩)] w fun e w' => e = .returned (.agg #[.bool (!S.dueB), .int .i64 (owedI S), .bool S.foldB, .bool S.raiseB, .int .i64 S.least, .int .i64 S.most, .int .i64 (openI S), .bool (sizedB S)]) ∧ Below w.heap.size w w' :=
  choices_any F w L S O H hF a1 s1 a2 V

theorem least_le {S : St} (O : S.Ok) (hr : S.raiseB = true) : S.least ≤ S.most := by
  have hs := O.stackA0
  unfold St.least St.most
  split
  · exact Int.le_refl _
  · first | rw [if_pos hr] | skip
    split
    · exact Int.le_refl _
    · unfold addUp
      split <;> omega
theorem none_raise {S : St} (hr : S.raiseB = false) : S.least = 0 ∧ S.most = 0 := by
  have hd : S.dueB = false := by
    cases h : S.dueB
    · rfl
    · simp [St.raiseB, h] at hr
  exact no_raise hd hr

set_option maxHeartbeats 400000 in
theorem refusal_any (F : Interp) (w : World) (L : Loc) (S : St) (O : S.Ok) (H : HandAt w L S) (hF : F.answers w.tape) (a1 : Addr) (s1 : ByteArray) (a2 : Addr) (V : VarsAt w a1 s1 a2) :
    Calls Ybaf.prog 14 #[.pointer (some ⟨L.h, 0, none⟩)] w (Refused w S.raiseB) := by
  go_enter Ybaf.func14, Ybaf.ntmps14
  go_wp2_with fail
  refine (range_any F w L S O H hF a1 s1 a2 V).mono ?_
  rintro e w1 ⟨r, rfl, hn, hb⟩
  go_wp2
  go_ret
  exact ⟨_, rfl, hn, hb⟩

set_option maxRecDepth 100000 in
set_option maxHeartbeats 800000 in
theorem agrees_any (sb : BuildSaid) (F : Interp) (w : World) (kind actor opened cap raises rsize roundBet lraise : Int) (useOp ff : Bool)
    (b1 o1 b2 o2 b3 o3 b4 o4 b5 o5 : Nat) (a1 a2 a3 a4 a5 : Option Addr) (l1 c1 l2 c2 l3 c3 l4 c4 l5 c5 : Nat) (f1 f2 f3 f5 : Nat → Int) (f4 : Nat → Bool)
    (I : InAt w kind actor opened cap raises rsize roundBet lraise b1 o1 b2 o2 b3 o3 b4 o4 b5 o5 a1 a2 a3 a4 a5 l1 l2 l3 l4 l5 f1 f2 f3 f5 f4) (hF : F.answers w.tape) (x1 : Addr) (s1 : ByteArray) (x2 : Addr) (V : VarsAt w x1 s1 x2) :
    Calls Ybaf.prog 6 #[.agg #[.int .u8 kind, .slice a1 l1 c1, .slice a2 l2 c2, .slice a3 l3 c3, .slice a4 l4 c4, .int .u8 actor, .bool useOp, .slice a5 l5 c5, .int .u8 opened, .int .i8 cap, .int .u8 raises, .int .u8 rsize, .int .u16 roundBet, .int .u16 lraise, .bool ff]] w
      fun e w' => e = .returned (.bool true) ∧ Below w.heap.size w w' := by
  go_enter Ybaf.func6, Ybaf.ntmps6
  go_wp2_with fail
  refine (built sb I (belAl _ (Below.refl _ _)) c1 c2 c3 c4 c5 useOp ff).mono ?_
  rintro e w1 ⟨L, S, rfl, O, H, hb1⟩
  have hbw1 := belT (belAl _ (Below.refl w.heap.size w)) hb1
  go_wp2_with fail
  refine (choices_at F w1 L S O H (ansB hbw1 hF) x1 s1 x2 (V.later hbw1)).mono ?_
  rintro e w2 ⟨rfl, hb2⟩
  have hbw2 := belT hbw1 hb2
  have H2 := H.later hb2
  go_wp2_with fail
  refine (refusal_any F _ L S O (H2.later (belAl _ (Below.refl _ _))) (ansB (belAl _ hbw2) hF) x1 s1 x2 (V.later (belAl _ hbw2))).mono ?_
  rintro e w3 ⟨r, rfl, ⟨hn, hm⟩, hb3⟩
  have k3 : w3.cell? ⟨w2.heap.size, 3, none⟩ = some (.bool S.raiseB) := cellLater hb3 (newCell w2 _ 63 3)
  have k4 : w3.cell? ⟨w2.heap.size, 4, none⟩ = some (.int .i64 S.least) := cellLater hb3 (newCell w2 _ 63 4)
  have k5 : w3.cell? ⟨w2.heap.size, 5, none⟩ = some (.int .i64 S.most) := cellLater hb3 (newCell w2 _ 63 5)
  have hbw3 := belT (belAl _ hbw2) hb3
  cases hr : S.raiseB
  · obtain ⟨e1, e2⟩ := none_raise hr
    rw [hr] at hn k3
    rw [e1] at k4
    rw [e2] at k5
    clear hr e1 e2
    go_wp2_with fail
    go_quiet (fail)
    go_wp2
    go_ret
    exact ⟨rfl, belT hbw3 (bel_dN nq)⟩
  · have hl := least_le O hr
    rw [hr] at hn k3
    clear hr
    go_wp2_with fail
    go_quiet (fail)
    go_wp2
    go_ret
    exact ⟨rfl, belT hbw3 (bel_dN nq)⟩
end Go.Proofs.YbulkabzkFmt
