/- The small walks of LawS1409BFrame: fmt.Errorf, fail, the appends. -/
import Derived.Test.YbulkacdsFmtFacts
import Derived.Test.YbulkacdsFmtEnc
import Derived.WalkKit
import Derived.WalkSpells
import Derived.WalkLawsBesides
import Derived.Lib.AppendZeros
namespace Go.Proofs.YbulkacdsFmt
open Go.RowKit Go.Extern.Stop Go.Stop Go.Extern
attribute [local go_sem] Ybaf.call32 Ybaf.guard Ybaf.fFit Ybaf.fFitr Ybaf.op3_100 Ybaf.op3_100w Ybaf.ptr60 Ybaf.elem60 Ybaf.isError60

set_option maxHeartbeats 800000 in
theorem errorf_fit (F : Interp) (x y : Int) (blk : Nat) (w : World) (hF : F.answers w.tape) (hc0 : w.cell? ⟨blk, 0, none⟩ = some (.iface 3 (.int .i64 x))) (hc1 : w.cell? ⟨blk, 1, none⟩ = some (.iface 3 (.int .i64 y))) :
    Calls Ybaf.prog 22 #[.string ⟨#[37, 100, 32, 98, 121, 116, 101, 115, 32, 100, 111, 32, 110, 111, 116, 32, 102, 105, 116, 32, 97, 32, 37, 100, 45, 98, 121, 116, 101, 32, 108, 101, 110, 103, 116, 104]⟩, .slice (some ⟨blk, 0, none⟩) 2 2] w
      fun e w' => ∃ b, e = .returned (.iface 60 (.pointer (some b))) ∧ Below w.heap.size w w' := by
  have hF' := answers_open hF
  go_enter Ybaf.func22, Ybaf.ntmps22
  go_wp2
  go_ret
  exact ⟨_, rfl, ((Below.refl _ w).alloc (Nat.le_refl _) _).drew⟩

theorem fail_keep (eb : Nat) (T : TypeId) (p v x : Value) (w : World) (hc : w.heap[eb]? = some (.cells #[v, .iface T p] 35 (0, 0))) :
    Calls Ybaf.prog 26 #[.pointer (some ⟨eb, 0, none⟩), x] w fun e w' => e = .returned (.tuple #[]) ∧ w' = w := by
  have c1 : w.cell? ⟨eb, 1, none⟩ = some (.iface T p) := by simp [World.cell?, hc]
  clear hc
  go_enter Ybaf.func26, Ybaf.ntmps26
  go_wp2
  go_end0
  exact ⟨rfl, rfl⟩

theorem fail_set (eb : Nat) (v : Value) (b : Addr) (w : World) (hc : w.heap[eb]? = some (.cells #[v, .nilIface] 35 (0, 0))) :
    Calls Ybaf.prog 26 #[.pointer (some ⟨eb, 0, none⟩), .iface 60 (.pointer (some b))] w fun e w' => e = .returned (.tuple #[]) ∧ w' = w.setCell ⟨eb, 1, none⟩ (.iface 60 (.pointer (some b))) := by
  have c1 : w.cell? ⟨eb, 1, none⟩ = some .nilIface := by simp [World.cell?, hc]
  have z1 : w.frozen? ⟨eb, 1, none⟩ = false := by simp [World.frozen?, hc]
  clear hc
  go_enter Ybaf.func26, Ybaf.ntmps26
  go_wp2
  go_end0
  exact ⟨rfl, rfl⟩

set_option maxRecDepth 100000 in
theorem i5 : ∃ i, Ybaf.prog.info? 5 = some i ∧ i.zero = some (.int .u8 0) ∧ i.size = 1 ∧ i.bytes = 1 := ⟨_, (by kernel_rfl : _ = some Ybaf.t5), by kernel_rfl, by kernel_rfl, by kernel_rfl⟩

/-- The bytes of a slice that came in: at the cells, from its address on. -/
def Bytes (w : World) (a : Option Addr) (b o l : Nat) (f : Nat → Int) : Prop := ∀ i, i < l → a = some ⟨b, o, none⟩ ∧ w.cell? ⟨b, o + i, none⟩ = some (.int .u8 (f i)) ∧ 0 ≤ f i ∧ f i ≤ 255

/-- The first l bytes as cells. -/
def cellsOf (f : Nat → Int) (l : Nat) : List Value := (List.range l).map fun i => .int .u8 (f i)
theorem cellsOf_length (f : Nat → Int) (l : Nat) : (cellsOf f l).length = l := by simp [cellsOf]
theorem cellsOf_get (f : Nat → Int) (l j : Nat) (h : j < l) : (cellsOf f l)[j]? = some (.int .u8 (f j)) := by simp [cellsOf, h]

theorem Bytes.later {w w' : World} {B : Nat} {a : Option Addr} {b o l : Nat} {f : Nat → Int} (h : Bytes w a b o l f) (hlt : ∀ i, i < l → b < B) (hb : Below B w w') : Bytes w' a b o l f := fun i hi => by
  obtain ⟨h1, h2, h3⟩ := h i hi
  exact ⟨h1, (hb.cell (p := ⟨b, o + i, none⟩) (hlt i hi)).trans h2, h3⟩
theorem Bytes.drew {w : World} {a : Option Addr} {b o l : Nat} {f : Nat → Int} (h : Bytes w a b o l f) : Bytes w.drew a b o l f := h

/-- append(own, xs...): the owned row, the bytes behind it. -/
theorem app_own {w : World} {B n : Nat} {v : Value} {xs : List Value} (ho : w.ownsRow B 5 1 v n xs) {a : Option Addr} {b o l : Nat} (c : Nat) {f : Nat → Int} (hB : Bytes w a b o l f) (hn : a = none → c = 0) (ty : TypeId)
    (hm : n + l ≤ 140737488355328) (hbase : B ≤ w.heap.size) :
    ∃ v' w', (Builtin.append_ #[22, 22] ty #[v, .slice a l c]).run Ybaf.prog w = .ok v' w' ∧ w'.ownsRow B 5 1 v' (n + l) (xs ++ cellsOf f l) ∧ w.grownBy w' v.ownBlock := by
  obtain ⟨i, hi, hz, hs, hb⟩ := i5
  rcases Nat.eq_zero_or_pos l with rfl | hl
  · rcases a with _ | ad
    · obtain rfl := hn rfl
      refine ⟨v, w, run_append_owned_none w B 22 ty 5 i 1 Ybaf.underlying22 hi v n xs ho, by simpa [cellsOf] using ho, ⟨rfl, rfl, rfl, Nat.le_refl _, fun _ _ _ => rfl⟩⟩
    · obtain ⟨v', w', h1, h2, h3, _⟩ := run_append_own w B 22 ty 5 i _ 1 1 Ybaf.underlying22 hi hz hs hb rfl (by omega) v n xs ho ad 0 c [] rfl (by simp) (by simp) (by simp only [maxLen]; omega) (by omega) hbase
      exact ⟨v', w', h1, by simpa [cellsOf] using h2, h3⟩
  · obtain ⟨rfl, -⟩ := hB 0 hl
    obtain ⟨v', w', h1, h2, h3, _⟩ := run_append_own w B 22 ty 5 i _ 1 1 Ybaf.underlying22 hi hz hs hb rfl (by omega) v n xs ho ⟨b, o, none⟩ l c (cellsOf f l) (by rw [cellsOf_length, Nat.mul_one])
      (fun j u hu => by
        have hj : j < l := by
          have := (List.getElem?_eq_some_iff.1 hu).1
          rwa [cellsOf_length] at this
        rw [cellsOf_get f l j hj] at hu
        obtain rfl := (Option.some.inj hu).symm
        rw [Go.WideShapes.add_plain]
        exact (hB j hj).2.1)
      (fun u hu => by
        simp only [cellsOf, List.mem_map] at hu
        obtain ⟨_, _, rfl⟩ := hu
        rfl) (by simp only [maxLen]; omega) (by omega) hbase
    exact ⟨v', w', h1, h2, h3⟩

/-- append(own, make([]byte, m)...). -/
theorem app_zeros {w : World} {B n : Nat} {v : Value} {xs : List Value} (ho : w.ownsRow B 5 1 v n xs) (m : Nat) (ty : TypeId) (hm : n + m ≤ 140737488355328) (hbase : B ≤ w.heap.size) :
    ∃ v' w', (Builtin.append_ #[22, 3] ty #[v, .int .i64 m]).run Ybaf.prog w = .ok v' w' ∧ w'.ownsRow B 5 1 v' (n + m) (xs ++ List.replicate m (.int .u8 0)) ∧ w.grownBy w' v.ownBlock := by
  obtain ⟨i, hi, hz, hs, hb⟩ := i5
  exact run_append_own_zeros w B 22 3 ty 5 i (.int .u8 0) .i64 .i64 Ybaf.underlying22 Ybaf.underlying3 hi hz hs hb rfl rfl v n xs ho m hm hbase

section
variable {P : Program} (w : World)
/-- AT A STEP OF A REGION THAT DRAWS ITS ORDER: an append whose run is known. -/
theorem step_append_run {ops : Array Oper} {o : Oper} {a : Act} {K : Act → World → Prop} {Q : Exit → Act → World → Prop} {E : Prop} (hgd : o.guard = none) (s x : Operand) (t tn : TypeId)
    (ho : o.op = .call { callee := .builtin .append, args := #[s, x], argTypes := #[t, tn] }) (vs vx : Value) (hs : a.eval s = vs) (hx : a.eval x = vx)
    (v' : Value) (w' : World) (hr : (Builtin.append_ #[t, tn] o.type #[vs, vx]).run P w = .ok v' w') (h : K (a.put o.dst v') w') :
    if Region.wanted o (yielded ops a.tmps) = true then Oper.wp P o a w K Q else E := by
  have hw : Region.wanted o (yielded ops a.tmps) = true := by simp [Region.wanted, hgd]
  rw [if_pos hw]
  exact Lib.wp_append_run w s x t tn ho vs vx hs hx v' w' hr h
end
end Go.Proofs.YbulkacdsFmt
