/- Ground for LawS1406ADropsOldestFirst: what turns in memory, and the list's small methods by their contracts. -/
import Derived.Test.YbulkacccRows
import Derived.WalkKit
import Derived.ProofKit
import Derived.Below
import Derived.OneCell
import Derived.BigQuiet
import Derived.Deep.Cut
import Derived.Deep.CutRange
import Derived.Deep.RegionLaw
import Derived.Lib.Builder
import Derived.LaidEqlPtr
import Derived.LaidEql
set_option linter.unusedVariables false
set_option linter.unusedSimpArgs false
namespace Go.Proofs.Ybulkaccc
open Go.RowKit

/-- Nothing has turned but the listed blocks, and what is new. -/
structure Only (L : List Nat) (w w' : World) : Prop where
  os : w'.os = w.os
  tape : w'.tape = w.tape
  output : w'.output = w.output
  size : w.heap.size ≤ w'.heap.size
  block : ∀ k, k < w.heap.size → k ∉ L → w'.heap[k]? = w.heap[k]?

theorem Only.refl (L : List Nat) (w : World) : Only L w w := ⟨rfl, rfl, rfl, Nat.le_refl _, fun _ _ _ => rfl⟩
theorem Only.mono {L L' : List Nat} {a b : World} (h : Only L a b) (hl : ∀ x, x ∈ L → x ∈ L') : Only L' a b := ⟨h.os, h.tape, h.output, h.size, fun k hk hn => h.block k hk (fun hm => hn (hl k hm))⟩
theorem Only.trans {L : List Nat} {a b c : World} (h : Only L a b) (k : Only L b c) : Only L a c :=
  ⟨k.os.trans h.os, k.tape.trans h.tape, k.output.trans h.output, Nat.le_trans h.size k.size, fun i hi hn => (k.block i (Nat.lt_of_lt_of_le hi h.size) hn).trans (h.block i hi hn)⟩
theorem Only.setCell {L : List Nat} {a w : World} (h : Only L a w) (p : Addr) (hp : p.block ∈ L) (u : Value) : Only L a (w.setCell p u) :=
  h.trans ⟨rfl, rfl, rfl, by simp, fun k hk hn => Below.heap_setCell _ _ _ _ (fun e => hn (by rw [e]; exact hp))⟩
theorem Only.drew {L : List Nat} {a w : World} (h : Only L a w) : Only L a w.drew := ⟨h.os, h.tape, h.output, h.size, h.block⟩
theorem Only.alloc {L : List Nat} {a w : World} (h : Only L a w) (o : Obj) : Only L a (w.alloc o) :=
  h.trans ⟨rfl, rfl, rfl, by simp, fun k hk hn => Below.heap_alloc _ _ _ hk⟩
theorem Only.of {L : List Nat} {w w' : World} (h : Below w.heap.size w w') : Only L w w' := ⟨h.os, h.tape, h.output, h.size, fun k hk _ => h.block k hk⟩
/-- A new block may turn: whoever began before it does not see it. -/
theorem Only.fresh {L : List Nat} {x : Nat} {a b : World} (h : Only (x :: L) a b) (hx : a.heap.size ≤ x) : Only L a b :=
  ⟨h.os, h.tape, h.output, h.size, fun k hk hn => h.block k hk (by simp only [List.mem_cons, not_or]; exact ⟨by omega, hn⟩)⟩
theorem Only.below {L : List Nat} {B : Nat} {w w' : World} (h : Only L w w') (hL : ∀ x ∈ L, B ≤ x) (hB : B ≤ w.heap.size) : Below B w w' :=
  ⟨h.os, h.tape, h.output, h.size, fun k hk => h.block k (by omega) (fun hm => by have := hL k hm; omega)⟩
theorem Only.at {L : List Nat} {w w' : World} (h : Only L w w') {k : Nat} {o : Obj} (hk : k ∉ L) (hc : w.heap[k]? = some o) : w'.heap[k]? = some o := (h.block k (lt_of_block hc) hk).trans hc

theorem hid {p : Prop} (h : p) : Hid p := h

/-- Block b is these cells, of type t, none of them frozen. -/
def At (w : World) (b : Nat) (cs : Array Value) (t : TypeId) : Prop := w.heap[b]? = some (.cells cs t (0, 0))
theorem At.same {w : World} {b : Nat} {cs : Array Value} {t : TypeId} (h : At w b cs t) (j : Nat) (x : Value) : At (w.setCell ⟨b, j, none⟩ x) b (cs.setIfInBounds j x) t := heap_setCell_same w b j cs t x h
theorem At.other {w : World} {b c : Nat} {cs : Array Value} {t : TypeId} (h : At w b cs t) (hne : b ≠ c) (j : Nat) (x : Value) : At (w.setCell ⟨c, j, none⟩ x) b cs t := (Below.heap_setCell _ _ _ _ hne).trans h
theorem At.cell {w : World} {b : Nat} {cs : Array Value} {t : TypeId} (h : At w b cs t) (j : Nat) (v : Value) (hv : cs[j]? = some v) : w.cell? ⟨b, j, none⟩ = some v := by
  unfold At at h
  simp [World.cell?, h, hv]
theorem At.loose {w : World} {b : Nat} {cs : Array Value} {t : TypeId} (h : At w b cs t) (j : Nat) : w.frozen? ⟨b, j, none⟩ = false := by
  unfold At at h
  simp [World.frozen?, h]
theorem At.lt {w : World} {b : Nat} {cs : Array Value} {t : TypeId} (h : At w b cs t) : b < w.heap.size := lt_of_block h
theorem At.ne {w : World} {j k : Nat} {cs ds : Array Value} {t u : TypeId} (h : At w j cs t) (h' : At w k ds u) (ht : t ≠ u) : j ≠ k := fun e => by
  subst e
  unfold At at h h'
  rw [h] at h'
  simp at h'
  exact ht h'.2
theorem At.neMap {w : World} {j k : Nat} {cs : Array Value} {t : TypeId} {es : Array MapEntry} {c : Nat} (h : At w j cs t) (h' : w.heap[k]? = some (.map es c)) : j ≠ k := fun e => by
  subst e
  unfold At at h
  rw [h] at h'
  cases h'
theorem At.keep {L : List Nat} {w w' : World} {b : Nat} {cs : Array Value} {t : TypeId} (h : At w b cs t) (o : Only L w w') (hb : b ∉ L) : At w' b cs t := o.at hb h
theorem At.inj {w : World} {b : Nat} {cs ds : Array Value} {t u : TypeId} (h : At w b cs t) (h' : At w b ds u) : cs = ds := by
  unfold At at h h'
  rw [h] at h'
  simp at h'
  exact h'.1

/-- What a store into cell j makes of a block. -/
def upd (j : Nat) (x : Value) : Obj → Obj
  | .cells cs t fz => .cells (cs.setIfInBounds j x) t fz
  | o => o
theorem get_set (w : World) (b c j : Nat) (x : Value) : (w.setCell ⟨b, j, none⟩ x).heap[c]? = if c = b then (w.heap[c]?).map (upd j x) else w.heap[c]? := by
  simp only [World.setCell, Array.getElem?_modify]
  by_cases h : b = c
  · subst h
    simp only [if_true]
    cases w.heap[b]? with
    | none => rfl
    | some o => cases o <;> rfl
  · have h' : ¬ c = b := fun e => h e.symm
    simp [h, h']
theorem get_same (w : World) (b j : Nat) (x : Value) : (w.setCell ⟨b, j, none⟩ x).heap[b]? = (w.heap[b]?).map (upd j x) := by rw [get_set, if_pos rfl]
theorem get_other (w : World) (b c j : Nat) (x : Value) (h : c ≠ b) : (w.setCell ⟨b, j, none⟩ x).heap[c]? = w.heap[c]? := by rw [get_set, if_neg h]
theorem get_drew (w : World) (c : Nat) : w.drew.heap[c]? = w.heap[c]? := rfl
theorem get_drewN (w : World) (n c : Nat) : (w.drewN n).heap[c]? = w.heap[c]? := by
  induction n generalizing w with
  | zero => rfl
  | succ n ih => exact (ih w.drew).trans rfl

set_option maxHeartbeats 800000 in
theorem cost_any (w : World) (b : Nat) (a : Option Addr) (n c : Nat) (h : w.cell? ⟨b, 36, none⟩ = some (.slice a n c)) (hn : (n : Int) < 256) :
    Calls Yba.prog 6 #[.pointer (some ⟨b, 0, none⟩)] w fun e w' => e = .returned (.int .i64 (256 + (n : Int))) ∧ w' = w := by
  go_enter Yba.func6, Yba.ntmps6
  go_wp2
  go_ret
  exact ⟨rfl, rfl⟩

set_option maxHeartbeats 800000 in
theorem len_any (w : World) (L : Nat) (n : Int) (h : w.cell? ⟨L, 4, none⟩ = some (.int .i64 n)) :
    Calls Yba.prog 8 #[.pointer (some ⟨L, 0, none⟩)] w fun e w' => e = .returned (.int .i64 n) ∧ w' = w := by
  go_enter Yba.func8, Yba.ntmps8
  go_wp2
  go_ret
  exact ⟨rfl, rfl⟩

set_option maxHeartbeats 800000 in
theorem front_any (w : World) (L : Nat) (n : Int) (E : Nat) (h : w.cell? ⟨L, 4, none⟩ = some (.int .i64 n)) (h0 : w.cell? ⟨L, 0, none⟩ = some (.pointer (some ⟨E, 0, none⟩))) (hn : 0 < n) :
    Calls Yba.prog 9 #[.pointer (some ⟨L, 0, none⟩)] w fun e w' => e = .returned (.pointer (some ⟨E, 0, none⟩)) ∧ w' = w := by
  go_enter Yba.func9, Yba.ntmps9
  go_wp2
  go_ret
  exact ⟨rfl, rfl⟩

set_option maxHeartbeats 800000 in
theorem init_any (w : World) (L : Nat) (a b : Value) (n : Int) (h : At w L #[a, b, .pointer none, .nilIface, .int .i64 n] 82) :
    Calls Yba.prog 10 #[.pointer (some ⟨L, 0, none⟩)] w fun e w' => e = .returned (.pointer (some ⟨L, 0, none⟩)) ∧ At w' L #[.pointer (some ⟨L, 0, none⟩), .pointer (some ⟨L, 0, none⟩), .pointer none, .nilIface, .int .i64 0] 82 ∧ Only [L] w w' := by
  have z0 := h.loose 0
  have z1 := h.loose 1
  have z4 := h.loose 4
  have c0 := h.cell 0 _ rfl
  have c1 := h.cell 1 _ rfl
  have c4 := h.cell 4 _ rfl
  have HE := hid h
  clear h
  go_enter Yba.func10, Yba.ntmps10
  go_wp2
  go_ret
  refine ⟨rfl, ((HE.out.same _ _).same _ _).same _ _, ?_⟩
  repeat (with_reducible refine Only.setCell ?_ _ (by simp only [List.mem_cons, true_or, or_true]) _)
  exact Only.refl _ _

set_option maxHeartbeats 800000 in
theorem lazy_any (w : World) (L E : Nat) (h0 : w.cell? ⟨L, 0, none⟩ = some (.pointer (some ⟨E, 0, none⟩))) :
    Calls Yba.prog 11 #[.pointer (some ⟨L, 0, none⟩)] w fun e w' => e = .returned (.tuple #[]) ∧ w' = w := by
  go_enter Yba.func11, Yba.ntmps11
  go_wp2
  go_end0
  exact ⟨rfl, rfl⟩

set_option maxHeartbeats 800000 in
theorem new_any (w : World) :
    Calls Yba.prog 4 #[] w fun e w' => e = .returned (.pointer (some ⟨w.heap.size, 0, none⟩)) ∧ At w' w.heap.size #[.pointer (some ⟨w.heap.size, 0, none⟩), .pointer (some ⟨w.heap.size, 0, none⟩), .pointer none, .nilIface, .int .i64 0] 82 ∧ Only [] w w' := by
  go_enter Yba.func4, Yba.ntmps4
  go_wp2_with fail
  refine Calls.mono (init_any _ w.heap.size _ _ 0 (heap_alloc_new w _)) ?_
  rintro e w1 ⟨rfl, h1, O1⟩
  have HE := hid (And.intro h1 O1)
  clear h1 O1
  go_wp2
  go_ret
  refine ⟨rfl, HE.out.1, Only.fresh (x := w.heap.size) ?_ (Nat.le_refl _)⟩
  exact ((Only.refl _ w).alloc _).trans HE.out.2
end Go.Proofs.Ybulkaccc
