/- The making of an answer. -/
import Derived.Test.YbulkacccBound
set_option linter.unusedVariables false
set_option linter.unusedSimpArgs false
namespace Go.Proofs.Ybulkaccc
open Go.RowKit

/-- The cells of the answer that the law makes. -/
def hcells (s : ByteArray) (p q : Int) (a : Option Addr) (n c S : Nat) (u : Int) : Array Value := #[.string s, .int .u8 p, .int .u8 q, .int .u8 0, .int .u8 0, .int .u8 0, .int .u8 0, .int .u8 0, .int .u8 0, .int .u8 0, .int .u8 0, .int .u8 0, .int .u8 0, .int .u8 0, .int .u8 0, .int .u8 0, .int .u8 0, .int .u8 0, .int .u8 0, .int .u8 0, .int .u8 0, .int .u8 0, .int .u8 0, .int .u8 0, .int .u8 0, .int .u8 0, .int .u8 0, .int .u8 0, .int .u8 0, .int .u8 0, .int .u8 0, .int .u8 0, .int .u8 0, .int .i64 200, .slice none 0 0, .string { data := #[] }, .slice a n c, .bool false, .slice none 0 0, .bool false, .int .u64 0, .int .i64 0, .pointer none, .string { data := #[] }, .int .u8 0, .int .u8 0, .int .u8 0, .int .u8 0, .int .u8 0, .int .u8 0, .int .u8 0, .int .u8 0, .int .u8 0, .int .u8 0, .int .u8 0, .int .u8 0, .int .u8 0, .int .u8 0, .int .u8 0, .int .u8 0, .int .u8 0, .int .u8 0, .int .u8 0, .int .u8 0, .int .u8 0, .int .u8 0, .int .u8 0, .int .u8 0, .int .u8 0, .int .u8 0, .int .u8 0, .int .u8 0, .int .u8 0, .int .u8 0, .int .u8 0, .int .u8 0, .bool false, .pointer (some ⟨S, 0, none⟩), .pointer none, .int .u64 u]

/-- The making of an answer, shut. -/
def ansBuild (ps : Array (Nat × Value)) : Sem Value := Instr.build 65 ps
theorem build65 (ps : Array (Nat × Value)) : Instr.build 65 ps = ansBuild ps := rfl
theorem ans_build (w : World) (s : ByteArray) (p q : Int) (a : Option Addr) (n c S : Nat) (u : Int) :
    (ansBuild #[(0, .string s), (1, .agg (kb p q)), (2, .int .i64 200), (5, .slice a n c), (11, .pointer (some ⟨S, 0, none⟩)), (13, .int .u64 u)]).run Yba.prog w = .ok (.agg (hcells s p q a n c S u)) w := by kernel_rfl

theorem hcells_key (s : ByteArray) (p q : Int) (a : Option Addr) (n c S : Nat) (u : Int) (k : Nat) (h : k < 32) : (hcells s p q a n c S u)[1 + k]? = (kb p q)[k]? := by
  have hc : k = 0 ∨ k = 1 ∨ k = 2 ∨ k = 3 ∨ k = 4 ∨ k = 5 ∨ k = 6 ∨ k = 7 ∨ k = 8 ∨ k = 9 ∨ k = 10 ∨ k = 11 ∨ k = 12 ∨ k = 13 ∨ k = 14 ∨ k = 15 ∨ k = 16 ∨ k = 17 ∨ k = 18 ∨ k = 19 ∨ k = 20 ∨ k = 21 ∨ k = 22 ∨ k = 23 ∨ k = 24 ∨ k = 25 ∨ k = 26 ∨ k = 27 ∨ k = 28 ∨ k = 29 ∨ k = 30 ∨ k = 31 := by omega
  rcases hc with rfl | rfl | rfl | rfl | rfl | rfl | rfl | rfl | rfl | rfl | rfl | rfl | rfl | rfl | rfl | rfl | rfl | rfl | rfl | rfl | rfl | rfl | rfl | rfl | rfl | rfl | rfl | rfl | rfl | rfl | rfl | rfl <;> rfl

/-- With its element in place it is the answer i. -/
theorem ans_of {w : World} {H : Nat} {s : ByteArray} {i : Nat} {a : Option Addr} {n c S E : Nat} {u : Int} (h : At w H ((hcells s (kp i) (kq i) a n c S u).setIfInBounds 78 (.pointer (some ⟨E, 0, none⟩))) 65) : Ans w H s i n S E := by
  refine ⟨_, h, rfl, fun k hk => ?_, ⟨a, c, rfl⟩, rfl, rfl, rfl⟩
  rw [Array.getElem?_setIfInBounds_ne (by omega)]
  exact hcells_key _ _ _ _ _ _ _ _ k hk

theorem mkMap (t : TypeId) (w : World) : (Instr.makeMap t none).run Yba.prog w = .ok (.map (some w.heap.size)) (w.alloc (.map #[] 0)) := rfl

theorem key_made {w : World} {b : Nat} {p q : Int} (h : At w b (kb 0 0) 52) : At ((w.setCell ⟨b, 0, none⟩ (.int .u8 p)).setCell ⟨b, 1, none⟩ (.int .u8 q)) b (kb p q) 52 := (h.same 0 (.int .u8 p)).same 1 (.int .u8 q)
theorem key_at {w : World} {b : Nat} {p q : Int} (h : At w b (kb p q) 52) : (keyLoad ⟨b, 0, none⟩).run Yba.prog w = .ok (.agg (kb p q)) w := by
  refine key_load w b 0 p q fun k hk => ?_
  rw [Nat.zero_add, kb_get _ _ k hk]
  exact h.cell _ _ (kb_get _ _ k hk)
end Go.Proofs.Ybulkaccc
