/- The encoding of a security block, by contracts. -/
import Derived.Test.YbulkacdsFmtEncode
set_option linter.unusedVariables false
set_option linter.unusedSimpArgs false
namespace Go.Proofs.YbulkacdsFmt
open Go.RowKit Go.Extern.Stop Go.Stop Go.Extern

theorem mkf : ∀ (fn : Fn) (first cap : Array Value) (wx : World), (Instr.makeFunc fn first cap).run Ybaf.prog wx = .ok (.func fn first cap) wx := fun _ _ _ _ => rfl

/-- Bytes that came in, below N. -/
structure In (w : World) (N : Nat) (a : Option Addr) (b o l c : Nat) (f : Nat → Int) : Prop where
  B : Bytes w a b o l f
  lt : ∀ i, i < l → b < N
  nil : a = none → c = 0
theorem In.later {w w' : World} {N : Nat} {a : Option Addr} {b o l c : Nat} {f : Nat → Int} (h : In w N a b o l c f) (hb : Below N w w') : In w' N a b o l c f := ⟨h.B.later h.lt hb, h.lt, h.nil⟩

set_option maxHeartbeats 800000 in
theorem opaque_any (w : World) (N eb size n : Nat) (v : Value) (xs : List Value) (a : Option Addr) (b o l c : Nat) (f : Nat → Int) (hsz : size ≤ 8) (hl : l < lim size) (hlb : l ≤ 100000) (hn : n ≤ 900000)
    (E : Enc w N eb v n xs) (I : In w N a b o l c f) :
    Calls Ybaf.prog 16 #[.pointer (some ⟨eb, 0, none⟩), .int .i64 size, .slice a l c] w fun e w' => e = .returned (.tuple #[]) ∧ ∃ v', Enc w' N eb v' (n + size + l) (xs ++ (hdr l size ++ cellsOf f l)) ∧ Step N eb w w' := by
  have b1 : Below w.heap.size w (w.alloc (.cells #[.slice a l c] 22)) := (Below.refl _ w).alloc (Nat.le_refl _) _
  have E1 := E.later b1
  have hp : (w.alloc (.cells #[.slice a l c] 22)).heap[w.heap.size]? = some (.cells #[.slice a l c] 22 (0, 0)) := heap_alloc_new w _
  have S1 : Step N eb w (w.alloc (.cells #[.slice a l c] 22)) := Step.below E.hN b1
  have HC : Hid _ := block27 _ N eb w.heap.size size l n v xs (cellsOf f l) hsz hl (by omega) (by omega) E1
    (fun w2 v2 E2 S2 => opq1_any w2 N eb w.heap.size (n + size) v2 _ a b o l c f E2 (by omega) (by omega) (S2.keep E1.he (by decide) (by decide) hp) (I.later (S1.B.trans S2.B)).B I.nil)
  have hmf := mkf
  have HS : Hid _ := S1
  clear E E1 hp S1 b1 I
  go_enter Ybaf.func16, Ybaf.ntmps16
  go_wp2_with fail
  refine Calls.mono HC.out ?_
  rintro e w3 ⟨rfl, v3, E3, S3⟩
  have HE : Hid _ := And.intro E3 (HS.out.trans S3)
  clear HC E3 S3 HS
  go_wp2
  go_end0
  exact ⟨rfl, v3, HE.out.1, HE.out.2⟩

/-- The law's security block in memory. -/
def SecAt (w : World) (S : Nat) (certs : Value) (ha sa ty sha : Int) (sh val : Value) : Prop :=
  w.heap[S]? = some (.cells #[certs, .int .u8 ha, .int .u8 sa, .int .u8 ty, .int .u8 sha, sh, val] 30 (0, 0))
theorem SecAt.cells {w : World} {S : Nat} {certs : Value} {ha sa ty sha : Int} {sh val : Value} (h : SecAt w S certs ha sa ty sha sh val) :
    w.cell? ⟨S, 0, none⟩ = some certs ∧ w.cell? ⟨S, 1, none⟩ = some (.int .u8 ha) ∧ w.cell? ⟨S, 2, none⟩ = some (.int .u8 sa) ∧ w.cell? ⟨S, 3, none⟩ = some (.int .u8 ty) ∧ w.cell? ⟨S, 4, none⟩ = some (.int .u8 sha) ∧ w.cell? ⟨S, 5, none⟩ = some sh ∧ w.cell? ⟨S, 6, none⟩ = some val := by
  unfold SecAt at h
  simp [World.cell?, h]
theorem SecAt.later {w w' : World} {N eb S : Nat} {certs : Value} {ha sa ty sha : Int} {sh val v x : Value} (h : SecAt w S certs ha sa ty sha sh val) (he : w.heap[eb]? = some (.cells #[v, x] 35 (0, 0))) (st : Step N eb w w') : SecAt w' S certs ha sa ty sha sh val :=
  st.keep he (by decide) (by decide) h

/-- The signer's body. -/
def sgnBytes (ty sha : Int) (lh : Nat) (fh : Nat → Int) : List Value := if ty = 3 then [] else [.int .u8 sha] ++ (hdr lh 1 ++ cellsOf fh lh)
def sgnLen (ty : Int) (lh : Nat) : Nat := if ty = 3 then 0 else 1 + 1 + lh

set_option maxHeartbeats 800000 in
theorem signer1 (w : World) (N eb sb S n : Nat) (v : Value) (xs : List Value) (certs val : Value) (ha sa ty sha : Int) (a : Option Addr) (b o l c : Nat) (f : Nat → Int) (hl : l ≤ 255) (hn : n ≤ 800000)
    (E : Enc w N eb v n xs) (hsb : w.heap[sb]? = some (.cells #[.pointer (some ⟨S, 3, none⟩)] 67 (0, 0))) (hS : SecAt w S certs ha sa ty sha (.slice a l c) val) (I : In w N a b o l c f) :
    Calls Ybaf.prog 33 #[.pointer (some ⟨eb, 0, none⟩), .pointer (some ⟨sb, 0, none⟩)] w fun e w' => e = .returned (.tuple #[]) ∧ ∃ v', Enc w' N eb v' (n + sgnLen ty l) (xs ++ sgnBytes ty sha l f) ∧ Step N eb w w' := by
  have cb := cell_of_one hsb
  obtain ⟨-, -, -, c3, c4, c5, -⟩ := hS.cells
  by_cases h3 : ty = 3
  · have h3' : (ty != 3) = false := by rw [bne_eq_false_iff_eq]; exact h3
    have HE : Hid _ := E
    have e1 : sgnLen ty l = 0 := if_pos h3
    have e2 : sgnBytes ty sha l f = [] := if_pos h3
    rw [e1, e2, Nat.add_zero, List.append_nil]
    clear E e1 e2 h3 hsb hS I
    go_enter Ybaf.func33, Ybaf.ntmps33
    go_wp2
    go_end0
    exact ⟨rfl, v, HE.out, Step.refl _ _ _⟩
  · have h3' : (ty != 3) = true := by rw [bne_iff_ne]; exact h3
    have e1 : sgnLen ty l = 1 + 1 + l := if_neg h3
    have e2 : sgnBytes ty sha l f = [.int .u8 sha] ++ (hdr l 1 ++ cellsOf f l) := if_neg h3
    rw [e1, e2]
    clear e1 e2 h3
    have HX : Hid _ := And.intro E (And.intro hsb (And.intro hS I))
    have HC : Hid _ := u8_any w N eb n v xs sha E (by omega)
    clear E hsb hS I
    go_enter Ybaf.func33, Ybaf.ntmps33
    go_wp2_with fail
    refine Calls.mono HC.out ?_
    rintro e w1 ⟨rfl, v1, E1, S1⟩
    obtain ⟨E, hsb, hS, I⟩ := HX.out
    have cb1 := cell_of_one (S1.keep E.he (by decide) (by decide) hsb)
    obtain ⟨-, -, -, k3, k4, k5, -⟩ := (hS.later E.he S1).cells
    have HC2 : Hid _ := opaque_any w1 N eb 1 (n + 1) v1 _ a b o l c f (by omega) (by show l < 256; omega) (by omega) (by omega) E1 (I.later S1.B)
    have HS : Hid _ := S1
    clear HC HX E hsb hS I E1 S1 cb c3 c4 c5
    go_wp2_with fail
    refine Calls.mono HC2.out ?_
    rintro e w2 ⟨rfl, v2, E2, S2⟩
    have hE : Enc w2 N eb v2 (n + (1 + 1 + l)) (xs ++ ([.int .u8 sha] ++ (hdr l 1 ++ cellsOf f l))) := by
      rw [← List.append_assoc, show n + (1 + 1 + l) = n + 1 + 1 + l by omega]; exact E2
    have HE : Hid _ := And.intro hE (HS.out.trans S2)
    clear HC2 E2 S2 HS hE cb1 k3 k4 k5
    go_wp2
    go_end0
    exact ⟨rfl, v2, HE.out.1, HE.out.2⟩
end Go.Proofs.YbulkacdsFmt
