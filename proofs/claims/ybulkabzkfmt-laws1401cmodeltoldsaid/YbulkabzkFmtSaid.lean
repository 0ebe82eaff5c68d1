/- What zzs1401cbuild does, as a statement: the laws take it as a premise till it is proved. -/
import Derived.Test.YbulkabzkFmtRows
import Derived.Test.YbulkabzkFmtPlain
import Derived.WalkKit
set_option linter.unusedVariables false
set_option linter.unusedSimpArgs false
namespace Go.Proofs.YbulkabzkFmt
open Go.RowKit

def BuildSaid : Prop := ∀ (w : World) (kind actor opened cap raises rsize roundBet lraise : Int) (useOp ff : Bool)
    (b1 o1 b2 o2 b3 o3 b4 o4 b5 o5 : Nat) (a1 a2 a3 a4 a5 : Option Addr) (l1 c1 l2 c2 l3 c3 l4 c4 l5 c5 : Nat) (f1 f2 f3 f5 : Nat → Int) (f4 : Nat → Bool)
    (kd0 : 0 ≤ kind) (kd1 : kind ≤ 255) (ac0 : 0 ≤ actor) (ac1 : actor ≤ 255) (op0 : 0 ≤ opened) (op1 : opened ≤ 255) (cp0 : -128 ≤ cap) (cp1 : cap ≤ 127) (rs0 : 0 ≤ raises) (rs1 : raises ≤ 255) (rz0 : 0 ≤ rsize) (rz1 : rsize ≤ 255)
    (rb0 : 0 ≤ roundBet) (rb1 : roundBet ≤ 65535) (lr0 : 0 ≤ lraise) (lr1 : lraise ≤ 65535)
    (hl1 : (l1 : Int) ≤ 9223372036854775807) (hl2 : (l2 : Int) ≤ 9223372036854775807) (hl3 : (l3 : Int) ≤ 9223372036854775807) (hl4 : (l4 : Int) ≤ 9223372036854775807) (hl5 : (l5 : Int) ≤ 9223372036854775807)
    (h1 : ∀ i, i < l1 → a1 = some ⟨b1, o1, none⟩ ∧ w.cell? ⟨b1, o1 + i, none⟩ = some (.int .u16 (f1 i)) ∧ 0 ≤ f1 i ∧ f1 i ≤ 65535)
    (h2 : ∀ i, i < l2 → a2 = some ⟨b2, o2, none⟩ ∧ w.cell? ⟨b2, o2 + i, none⟩ = some (.int .u8 (f2 i)) ∧ 0 ≤ f2 i ∧ f2 i ≤ 255)
    (h3 : ∀ i, i < l3 → a3 = some ⟨b3, o3, none⟩ ∧ w.cell? ⟨b3, o3 + i, none⟩ = some (.int .u16 (f3 i)) ∧ 0 ≤ f3 i ∧ f3 i ≤ 65535)
    (h4 : ∀ i, i < l4 → a4 = some ⟨b4, o4, none⟩ ∧ w.cell? ⟨b4, o4 + i, none⟩ = some (.bool (f4 i)))
    (h5 : ∀ i, i < l5 → a5 = some ⟨b5, o5, none⟩ ∧ w.cell? ⟨b5, o5 + i, none⟩ = some (.int .u8 (f5 i)) ∧ 0 ≤ f5 i ∧ f5 i ≤ 255),
    Calls Ybaf.prog 11 #[.agg #[.int .u8 kind, .slice a1 l1 c1, .slice a2 l2 c2, .slice a3 l3 c3, .slice a4 l4 c4, .int .u8 actor, .bool useOp, .slice a5 l5 c5, .int .u8 opened, .int .i8 cap, .int .u8 raises, .int .u8 rsize, .int .u16 roundBet, .int .u16 lraise, .bool ff]] w
      fun e w' => ∃ L S, e = .returned (.pointer (some ⟨L.h, 0, none⟩)) ∧ S.Ok ∧ HandAt w' L S ∧ Below w.heap.size w w' 
end Go.Proofs.YbulkabzkFmt
