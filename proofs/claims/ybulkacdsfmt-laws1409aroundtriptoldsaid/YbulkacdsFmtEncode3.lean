/- The encoding of a security block, by contracts: the signature, the certificates, the whole. -/
import Derived.Test.YbulkacdsFmtEncode2
set_option linter.unusedVariables false
set_option linter.unusedSimpArgs false
namespace Go.Proofs.YbulkacdsFmt
open Go.RowKit Go.Extern.Stop Go.Stop Go.Extern

theorem sgnLen_le (ty : Int) (l : Nat) (h : l ≤ 255) : sgnLen ty l ≤ 257 := by unfold sgnLen; split <;> omega

set_option maxHeartbeats 800000 in
theorem signer_any (w : World) (N eb S n : Nat) (v : Value) (xs : List Value) (certs val : Value) (ha sa ty sha : Int) (a : Option Addr) (b o l c : Nat) (f : Nat → Int) (hl : l ≤ 255) (hn : n ≤ 700000)
    (E : Enc w N eb v n xs) (hS : SecAt w S certs ha sa ty sha (.slice a l c) val) (I : In w N a b o l c f) :
    Calls Ybaf.prog 28 #[.pointer (some ⟨S, 3, none⟩), .pointer (some ⟨eb, 0, none⟩)] w fun e w' => e = .returned (.tuple #[]) ∧ ∃ v', Enc w' N eb v' (n + 1 + 2 + sgnLen ty l) (xs ++ [.int .u8 ty] ++ (hdr (sgnLen ty l) 2 ++ sgnBytes ty sha l f)) ∧ Step N eb w w' := by
  have hsl := sgnLen_le ty l hl
  have b1 : Below w.heap.size w (w.alloc (.cells #[.pointer (some ⟨S, 3, none⟩)] 67)) := (Below.refl _ w).alloc (Nat.le_refl _) _
  have E1 := E.later b1
  have hp : (w.alloc (.cells #[.pointer (some ⟨S, 3, none⟩)] 67)).heap[w.heap.size]? = some (.cells #[.pointer (some ⟨S, 3, none⟩)] 67 (0, 0)) := heap_alloc_new w _
  have S1 : Step N eb w (w.alloc (.cells #[.pointer (some ⟨S, 3, none⟩)] 67)) := Step.below E.hN b1
  have hS1 := hS.later E.he S1
  have I1 := I.later S1.B
  obtain ⟨-, -, -, c3, -, -, -⟩ := hS1.cells
  have HC : Hid _ := u8_any _ N eb n v xs ty E1 (by omega)
  have HX : Hid _ := And.intro E1 (And.intro hp (And.intro S1 (And.intro hS1 I1)))
  have hmf := mkf
  clear E E1 hp S1 b1 I I1 hS hS1
  go_enter Ybaf.func28, Ybaf.ntmps28
  go_wp2_with fail
  refine Calls.mono HC.out ?_
  rintro e w2 ⟨rfl, v2, E2, S2⟩
  obtain ⟨E1, hp, S1, hS1, I1⟩ := HX.out
  have hp2 := S2.keep E1.he (by decide) (by decide) hp
  have hS2 := hS1.later E1.he S2
  have I2 := I1.later S2.B
  have HC2 : Hid _ := block33 w2 N eb w.heap.size 2 (sgnLen ty l) (n + 1) v2 _ (sgnBytes ty sha l f) (by omega) (by show sgnLen ty l < 65536; omega) (by omega) (by omega) E2
    (fun w3 v3 E3 S3 => signer1 w3 N eb w.heap.size S (n + 1 + 2) v3 _ certs val ha sa ty sha a b o l c f hl (by omega) E3 (S3.keep E2.he (by decide) (by decide) hp2) (hS2.later E2.he S3) (I2.later S3.B))
  have HS : Hid _ := S1.trans S2
  clear HC HX E1 hp S1 hS1 I1 E2 S2 hp2 hS2 I2 c3
  go_wp2_with fail
  refine Calls.mono HC2.out ?_
  rintro e w4 ⟨rfl, v4, E4, S4⟩
  have HE : Hid _ := And.intro E4 (HS.out.trans S4)
  clear HC2 E4 S4 HS
  go_wp2
  go_end0
  exact ⟨rfl, v4, HE.out.1, HE.out.2⟩

/-- A signature's bytes. -/
def sigBytes (ha sa ty sha : Int) (l : Nat) (f : Nat → Int) (lv : Nat) (fv : Nat → Int) : List Value :=
  [.int .u8 ha] ++ ([.int .u8 sa] ++ ([.int .u8 ty] ++ ((hdr (sgnLen ty l) 2 ++ sgnBytes ty sha l f) ++ (hdr lv 2 ++ cellsOf fv lv))))
def sigLen (ty : Int) (l lv : Nat) : Nat := 1 + 1 + (1 + 2 + sgnLen ty l) + (2 + lv)

set_option maxHeartbeats 800000 in
theorem sig_any (w : World) (N eb S n : Nat) (v : Value) (xs : List Value) (certs : Value) (ha sa ty sha : Int) (a : Option Addr) (b o l c : Nat) (f : Nat → Int) (av : Option Addr) (bv ov lv cv : Nat) (fv : Nat → Int) (hl : l ≤ 255) (hlv : lv ≤ 65535) (hn : n ≤ 600000)
    (E : Enc w N eb v n xs) (hS : SecAt w S certs ha sa ty sha (.slice a l c) (.slice av lv cv)) (I : In w N a b o l c f) (J : In w N av bv ov lv cv fv) :
    Calls Ybaf.prog 17 #[.pointer (some ⟨S, 1, none⟩), .pointer (some ⟨eb, 0, none⟩)] w fun e w' => e = .returned (.tuple #[]) ∧ ∃ v', Enc w' N eb v' (n + sigLen ty l lv) (xs ++ sigBytes ha sa ty sha l f lv fv) ∧ Step N eb w w' := by
  have hsl := sgnLen_le ty l hl
  obtain ⟨-, c1, c2, -, -, -, c6⟩ := hS.cells
  have HC : Hid _ := u8_any _ N eb n v xs ha E (by omega)
  have HX : Hid _ := And.intro E (And.intro hS (And.intro I J))
  clear E hS I J
  go_enter Ybaf.func17, Ybaf.ntmps17
  go_wp2_with fail
  refine Calls.mono HC.out ?_
  rintro e w1 ⟨rfl, v1, E1, S1⟩
  obtain ⟨E, hS, I, J⟩ := HX.out
  have hS1 := hS.later E.he S1
  obtain ⟨-, d1, d2, -, -, -, d6⟩ := hS1.cells
  have HC1 : Hid _ := u8_any _ N eb (n + 1) v1 _ sa E1 (by omega)
  have HX1 : Hid _ := And.intro E1 (And.intro S1 (And.intro hS1 (And.intro (I.later S1.B) (J.later S1.B))))
  clear HC HX E hS I J E1 S1 hS1 c1 c2 c6
  go_wp2_with fail
  refine Calls.mono HC1.out ?_
  rintro e w2 ⟨rfl, v2, E2, S2⟩
  obtain ⟨E1, S1, hS1, I, J⟩ := HX1.out
  have hS2 := hS1.later E1.he S2
  obtain ⟨-, k1, k2, -, -, -, k6⟩ := hS2.cells
  have HC2 : Hid _ := signer_any w2 N eb S (n + 1 + 1) v2 _ certs _ ha sa ty sha a b o l c f hl (by omega) E2 hS2 (I.later S2.B)
  have HX2 : Hid _ := And.intro E2 (And.intro (S1.trans S2) (And.intro hS2 (J.later S2.B)))
  clear HC1 HX1 E1 S1 hS1 I J E2 S2 hS2 d1 d2 d6
  go_wp2_with fail
  refine Calls.mono HC2.out ?_
  rintro e w3 ⟨rfl, v3, E3, S3⟩
  obtain ⟨E2, S2, hS2, J⟩ := HX2.out
  have hS3 := hS2.later E2.he S3
  obtain ⟨-, -, -, -, -, -, m6⟩ := hS3.cells
  have HC3 : Hid _ := opaque_any w3 N eb 2 (n + 1 + 1 + 1 + 2 + sgnLen ty l) v3 _ av bv ov lv cv fv (by omega) (by show lv < 65536; omega) (by omega) (by omega) E3 (J.later S3.B)
  have HX3 : Hid _ := S2.trans S3
  clear HC2 HX2 E2 S2 hS2 J E3 S3 hS3 k1 k2 k6
  go_wp2_with fail
  refine Calls.mono HC3.out ?_
  rintro e w4 ⟨rfl, v4, E4, S4⟩
  have hE : Enc w4 N eb v4 (n + sigLen ty l lv) (xs ++ sigBytes ha sa ty sha l f lv fv) := by
    have e1 : n + sigLen ty l lv = n + 1 + 1 + 1 + 2 + sgnLen ty l + 2 + lv := by unfold sigLen; omega
    rw [e1]
    unfold sigBytes
    simpa only [List.append_assoc] using E4
  have HE : Hid _ := And.intro hE (HX3.out.trans S4)
  clear HC3 HX3 E4 S4 hE m6
  go_wp2
  go_end0
  exact ⟨rfl, v4, HE.out.1, HE.out.2⟩

/-- The certificates that came in. -/
structure Certs (w : World) (N : Nat) (a : Option Addr) (b o l : Nat) (ca : Nat → Option Addr) (cb co cl cc : Nat → Nat) (cf : Nat → Nat → Int) : Prop where
  at_ : ∀ i, i < l → a = some ⟨b, o, none⟩ ∧ w.cell? ⟨b, o + i, none⟩ = some (.slice (ca i) (cl i) (cc i)) ∧ In w N (ca i) (cb i) (co i) (cl i) (cc i) (cf i) ∧ cl i ≤ 65535
  lt : ∀ i, i < l → b < N
theorem Certs.later {w w' : World} {N : Nat} {a : Option Addr} {b o l : Nat} {ca : Nat → Option Addr} {cb co cl cc : Nat → Nat} {cf : Nat → Nat → Int} (h : Certs w N a b o l ca cb co cl cc cf) (hb : Below N w w') : Certs w' N a b o l ca cb co cl cc cf :=
  ⟨fun i hi => by
    obtain ⟨h1, h2, h3, h4⟩ := h.at_ i hi
    exact ⟨h1, (hb.cell (p := ⟨b, o + i, none⟩) (h.lt i hi)).trans h2, h3.later hb, h4⟩, h.lt⟩

def certLen (cl : Nat → Nat) : Nat → Nat
  | 0 => 0
  | k + 1 => certLen cl k + (1 + 2 + cl k)
def certBytes (cl : Nat → Nat) (cf : Nat → Nat → Int) : Nat → List Value
  | 0 => []
  | k + 1 => certBytes cl cf k ++ ([.int .u8 0] ++ (hdr (cl k) 2 ++ cellsOf (cf k) (cl k)))
theorem certLen_mono (cl : Nat → Nat) : ∀ k n, k ≤ n → certLen cl k ≤ certLen cl n
  | k, 0, h => by obtain rfl : k = 0 := by omega
                  exact Nat.le_refl _
  | k, n + 1, h => by
    rcases Nat.lt_or_ge n k with h' | h'
    · obtain rfl : k = n + 1 := by omega
      exact Nat.le_refl _
    · exact Nat.le_trans (certLen_mono cl k n h') (Nat.le_add_right _ _)

set_option maxHeartbeats 1600000 in
theorem sec1 (w : World) (N eb sb S n : Nat) (v : Value) (xs : List Value) (sh val : Value) (ha sa ty sha : Int) (a : Option Addr) (b o l c : Nat) (ca : Nat → Option Addr) (cb co cl cc : Nat → Nat) (cf : Nat → Nat → Int) (hl : l ≤ 1024) (ht : certLen cl l ≤ 65535) (hn : n ≤ 10)
    (E : Enc w N eb v n xs) (hsb : w.heap[sb]? = some (.cells #[.pointer (some ⟨S, 0, none⟩)] 49 (0, 0))) (hS : SecAt w S (.slice a l c) ha sa ty sha sh val) (C : Certs w N a b o l ca cb co cl cc cf) :
    Calls Ybaf.prog 14 #[.pointer (some ⟨eb, 0, none⟩), .pointer (some ⟨sb, 0, none⟩)] w fun e w' => e = .returned (.tuple #[]) ∧ ∃ v', Enc w' N eb v' (n + certLen cl l) (xs ++ certBytes cl cf l) ∧ Step N eb w w' := by
  have cb0 := cell_of_one hsb
  obtain ⟨c0, -⟩ := hS.cells
  have HX : Hid _ := And.intro E C
  clear E C hsb hS
  go_enter Ybaf.func14, Ybaf.ntmps14
  go_wp2_with fail
  clear cb0 c0
  go_loopw [10] (fun i wr => ∃ k : Nat, k ≤ l ∧ i = .int .i64 k ∧ ∃ v', Enc wr N eb v' (n + certLen cl k) (xs ++ certBytes cl cf k) ∧ Step N eb w wr) (fun i _ => l - (intOf i).toNat)
  case atStart => exact ⟨0, Nat.zero_le _, rfl, v, by simpa [certLen, certBytes] using HX.out.1, Step.refl _ _ _⟩
  case round =>
    obtain ⟨k, hk, rfl, v', E1, S1⟩ := hrel
    by_cases hlt : k < l
    · have hcm := certLen_mono cl (k + 1) l (by omega)
      have hck : certLen cl (k + 1) = certLen cl k + (1 + 2 + cl k) := rfl
      have C1 := HX.out.2.later S1.B
      obtain ⟨rfl, hc, Ik, hlk⟩ := C1.at_ k hlt
      have HC : Hid _ := u8_any wr N eb (n + certLen cl k) v' _ 0 E1 (by omega)
      have H1 : Hid _ := And.intro E1 (And.intro S1 Ik)
      clear C1 Ik E1 S1 HX
      go_wp2_with fail
      refine Calls.mono HC.out ?_
      rintro e w2 ⟨rfl, v2, E2, S2⟩
      obtain ⟨E1, S1, Ik⟩ := H1.out
      have HC2 : Hid _ := opaque_any w2 N eb 2 (n + certLen cl k + 1) v2 _ (ca k) (cb k) (co k) (cl k) (cc k) (cf k) (by omega) (by show cl k < 65536; omega) (by omega) (by omega) E2 (Ik.later S2.B)
      have HS : Hid _ := S1.trans S2
      clear HC H1 E1 S1 Ik E2 S2 hc
      go_wp2_with fail
      refine Calls.mono HC2.out ?_
      rintro e w3 ⟨rfl, v3, E3, S3⟩
      have hE : Enc w3 N eb v3 (n + certLen cl (k + 1)) (xs ++ certBytes cl cf (k + 1)) := by
        have e1 : n + certLen cl (k + 1) = n + certLen cl k + 1 + 2 + cl k := by omega
        rw [e1]
        unfold certBytes
        simpa only [List.append_assoc] using E3
      have HE : Hid _ := And.intro hE (HS.out.trans S3)
      clear HC2 E3 S3 HS hE hck hcm
      go_wp2
      exact ⟨⟨k + 1, by omega, by go_num, v3, HE.out.1, HE.out.2⟩, by simp [intOf]; omega⟩
    · obtain rfl : k = l := by omega
      have HE : Hid _ := And.intro E1 S1
      clear E1 S1 HX
      go_wp2
      go_end0
      exact ⟨rfl, v', HE.out.1, HE.out.2⟩

/-- A security block's bytes. -/
def secBytes (n : Nat) (cl : Nat → Nat) (cf : Nat → Nat → Int) (ha sa ty sha : Int) (l : Nat) (f : Nat → Int) (lv : Nat) (fv : Nat → Int) : List Value :=
  (hdr (certLen cl n) 2 ++ certBytes cl cf n) ++ sigBytes ha sa ty sha l f lv fv

set_option maxHeartbeats 800000 in
theorem sec_any (w : World) (N eb S : Nat) (v : Value) (ha sa ty sha : Int) (ah : Option Addr) (bh oh lh ch : Nat) (fh : Nat → Int) (av : Option Addr) (bv ov lv cv : Nat) (fv : Nat → Int)
    (a : Option Addr) (b o l c : Nat) (ca : Nat → Option Addr) (cb co cl cc : Nat → Nat) (cf : Nat → Nat → Int) (hl : l ≤ 1024) (ht : certLen cl l ≤ 65535) (hlh : lh ≤ 255) (hlv : lv ≤ 65535)
    (E : Enc w N eb v 0 []) (hS : SecAt w S (.slice a l c) ha sa ty sha (.slice ah lh ch) (.slice av lv cv)) (C : Certs w N a b o l ca cb co cl cc cf) (I : In w N ah bh oh lh ch fh) (J : In w N av bv ov lv cv fv) :
    Calls Ybaf.prog 6 #[.pointer (some ⟨S, 0, none⟩), .pointer (some ⟨eb, 0, none⟩)] w fun e w' => e = .returned (.tuple #[]) ∧ ∃ v', Enc w' N eb v' (2 + certLen cl l + sigLen ty lh lv) (secBytes l cl cf ha sa ty sha lh fh lv fv) ∧ Step N eb w w' := by
  have b1 : Below w.heap.size w (w.alloc (.cells #[.pointer (some ⟨S, 0, none⟩)] 49)) := (Below.refl _ w).alloc (Nat.le_refl _) _
  have E1 := E.later b1
  have hp : (w.alloc (.cells #[.pointer (some ⟨S, 0, none⟩)] 49)).heap[w.heap.size]? = some (.cells #[.pointer (some ⟨S, 0, none⟩)] 49 (0, 0)) := heap_alloc_new w _
  have S1 : Step N eb w (w.alloc (.cells #[.pointer (some ⟨S, 0, none⟩)] 49)) := Step.below E.hN b1
  have hS1 := hS.later E.he S1
  have C1 := C.later S1.B
  have HC : Hid _ := block14 _ N eb w.heap.size 2 (certLen cl l) 0 v [] (certBytes cl cf l) (by omega) (by show certLen cl l < 65536; omega) (by omega) (by omega) E1
    (fun w3 v3 E3 S3 => sec1 w3 N eb w.heap.size S (0 + 2) v3 _ _ _ ha sa ty sha a b o l c ca cb co cl cc cf hl ht (by omega) E3 (S3.keep E1.he (by decide) (by decide) hp) (hS1.later E1.he S3) (C1.later S3.B))
  have HX : Hid _ := And.intro E1 (And.intro hp (And.intro S1 (And.intro hS1 (And.intro (I.later S1.B) (J.later S1.B)))))
  have hmf := mkf
  clear E E1 hp S1 b1 C1 I J hS hS1 C
  go_enter Ybaf.func6, Ybaf.ntmps6
  go_wp2_with fail
  refine Calls.mono HC.out ?_
  rintro e w2 ⟨rfl, v2, E2, S2⟩
  obtain ⟨E1, hp, S1, hS1, I, J⟩ := HX.out
  have cp2 := cell_of_one (S2.keep E1.he (by decide) (by decide) hp)
  have HC2 : Hid _ := sig_any w2 N eb S (0 + 2 + certLen cl l) v2 _ _ ha sa ty sha ah bh oh lh ch fh av bv ov lv cv fv hlh hlv (by omega) E2 (hS1.later E1.he S2) (I.later S2.B) (J.later S2.B)
  have HS : Hid _ := S1.trans S2
  clear HC HX E1 hp S1 hS1 I J E2 S2
  go_wp2_with fail
  refine Calls.mono HC2.out ?_
  rintro e w3 ⟨rfl, v3, E3, S3⟩
  rw [Nat.zero_add, List.nil_append] at E3
  have HE : Hid _ := And.intro E3 (HS.out.trans S3)
  clear HC2 E3 S3 HS cp2
  go_wp2
  go_end0
  exact ⟨rfl, v3, HE.out.1, HE.out.2⟩
end Go.Proofs.YbulkacdsFmt
