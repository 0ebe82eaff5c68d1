/- boundLocked by its contract. -/
import Derived.Test.YbulkacccDrop
set_option linter.unusedVariables false
set_option linter.unusedSimpArgs false
namespace Go.Proofs.Ybulkaccc
open Go.RowKit

/-- What the first k listings cost. -/
def cum (ln : Nat → Nat) : Nat → Nat
  | 0 => 0
  | k + 1 => cum ln k + (256 + ln k)
theorem cum_le (ln : Nat → Nat) (n : Nat) (h : ∀ i, i < n → ln i < 256) : ∀ k, k ≤ n → cum ln k ≤ 511 * k
  | 0, _ => by simp [cum]
  | k + 1, hk => by
    have := cum_le ln n h k (by omega)
    have := h k (by omega)
    simp only [cum]
    omega
theorem cum_mono (ln : Nat → Nat) {a b : Nat} (h : a ≤ b) : cum ln a ≤ cum ln b := by
  induction b with
  | zero => obtain rfl : a = 0 := by omega
            exact Nat.le_refl _
  | succ b ih =>
    by_cases e : a = b + 1
    · subst e; exact Nat.le_refl _
    · have := ih (by omega)
      simp only [cum]
      omega

/-- The bytes that the fallback counts. -/
def obAt (w : World) (O : Nat) : Nat := match w.cell? ⟨O, 7, none⟩ with | some (.int _ n) => n.toNat | _ => 0

theorem Own.o7 {w : World} {B O S FB mR mS L lo hi : Nat} {ob sb : Int} (h : Own w B O S FB mR mS L lo hi ob sb) (hle : lo ≤ hi) : w.cell? ⟨O, 7, none⟩ = some (.int .i64 ob) := by
  by_cases e : lo = hi
  · obtain ⟨⟨oc, h1, _, _, _, h2⟩, _⟩ := h.2 e
    exact h1.cell _ _ h2
  · obtain ⟨oc, s⟩ := h.1 (by omega)
    exact s.hO.cell _ _ s.o7
theorem obAt_of {w : World} {O : Nat} {v : Int} (h : w.cell? ⟨O, 7, none⟩ = some (.int .i64 v)) : obAt w O = v.toNat := by simp [obAt, h]

theorem Kept.join {T : List TypeId} {M M' : List Nat} {B : Nat} {a b c : World} (h : Kept T M B a b) (k : Kept T M' B b c) : Kept T (M ++ M') B a c :=
  (h.mono (fun _ h => h) (fun x hx => by simp [hx])).trans (k.mono (fun _ h => h) (fun x hx => by simp [hx]))

theorem assert54 (wx : World) (a : Addr) : (Instr.typeAssert (.iface 54 (.pointer (some a))) 20 54 false).run Yba.prog wx = .ok (.pointer (some a)) wx := by kernel_rfl
theorem assert54ok (wx : World) (a : Addr) : (Instr.typeAssert (.iface 54 (.pointer (some a))) 20 54 true).run Yba.prog wx = .ok (.tuple #[.pointer (some a), .bool true]) wx := by kernel_rfl

set_option maxRecDepth 100000 in
set_option maxHeartbeats 1600000 in
theorem bound_any {w : World} {B O S FB mR mS L : Nat} {nm : Nat → ByteArray} {ln : Nat → Nat} {F : Where} {eb : Nat → Nat} {n e : Nat} (hd : Held w B S mR mS L nm ln F eb 0 n) (ow : Own w B O S FB mR mS L 0 n (67108864 + (e : Int)) (cum ln n))
    (hB : B ≤ w.heap.size) (hn : n ≤ 1024) (hln : ∀ i, i < n → ln i < 256) (hsz : ∀ i, i < n → (nm i).size ≤ maxLen) (he : e ≤ cum ln n) :
    Calls Yba.prog 7 #[.pointer (some ⟨O, 0, none⟩)] w fun r w' => r = .returned (.tuple #[]) ∧ ∃ k, k ≤ n ∧ e ≤ cum ln k ∧ (∀ j, j < k → cum ln j < e) ∧ Held w' B S mR mS L nm ln F eb k n ∧
      Own w' B O S FB mR mS L k n (67108864 + (e : Int) - (cum ln k : Int)) ((cum ln n : Int) - (cum ln k : Int)) ∧ ∃ M, Kept dT M B w w' := by
  have S0 : Hid (∃ k, k ≤ n ∧ (∀ j, j < k → cum ln j < e) ∧ Held w B S mR mS L nm ln F eb k n ∧
      Own w B O S FB mR mS L k n (67108864 + (e : Int) - (cum ln k : Int)) ((cum ln n : Int) - (cum ln k : Int)) ∧ ∃ M, Kept dT M B w w) := ⟨0, Nat.zero_le _, fun j h => by omega, hd, by simpa [cum] using ow, [], Kept.refl _ _ _ _⟩
  clear hd ow
  have hc : Hid (∀ k, k ≤ n → cum ln k ≤ 511 * k) := cum_le ln n hln
  have ta := assert54
  go_enter Yba.func7, Yba.ntmps7
  go_wp2_with fail
  go_loopw [] (fun wr => Hid (∃ k, k ≤ n ∧ (∀ j, j < k → cum ln j < e) ∧ Held wr B S mR mS L nm ln F eb k n ∧
      Own wr B O S FB mR mS L k n (67108864 + (e : Int) - (cum ln k : Int)) ((cum ln n : Int) - (cum ln k : Int)) ∧ ∃ M, Kept dT M B w wr)) (fun wr => obAt wr O)
  case atStart => exact S0
  case round =>
    obtain ⟨k, hk, hj, hd, ow, M, kp⟩ := hrel.out
    have o7 := ow.o7 hk
    have c1 := hc.out k hk
    have c2 := hc.out n (Nat.le_refl _)
    by_cases hgt : cum ln k < e
    · have hkn : k < n := by
        rcases Nat.lt_or_ge k n with h | h
        · exact h
        · obtain rfl : k = n := by omega
          omega
      obtain ⟨oc, sh⟩ := ow.1 hkn
      have o6 := sh.hO.cell _ _ sh.o6
      have f0 := sh.hF.cell 0 _ rfl
      have s2 := sh.hS.cell 2 _ rfl
      have l0 := hd.ring.root.cell 0 _ rfl
      have l4 := hd.ring.root.cell 4 _ rfl
      simp only [hkn, if_true] at l0
      have HF := hid (front_any wr L ((n : Int) - (k : Int)) (eb k) l4 l0 (by omega))
      have e3 := (hd.ring.el k (Nat.le_refl _) hkn).cell 3 _ rfl
      have HD := hid (drop_any hd sh (Nat.le_trans hB kp.size) hkn hn (hln k hkn) (hsz k hkn) (by omega) (by omega) (by omega) (by omega))
      have Hob : Hid (obAt wr O = (67108864 + (e : Int) - (cum ln k : Int)).toNat) := obAt_of o7
      have Hj := hid hj
      have HK := hid kp
      have hgt' : (67108864 : Int) < 67108864 + (e : Int) - (cum ln k : Int) := by omega
      clear hd ow sh l0 l4 S0 hrel hj kp
      go_wp2_with fail
      refine Calls.mono HF.out ?_
      rintro _ w1 ⟨rfl, rfl⟩
      clear HF
      go_wp2_with fail
      refine Calls.mono HD.out ?_
      rintro _ w2 ⟨rfl, ⟨M', kp'⟩, hd', ow'⟩
      have ow2 : Own w2 B O S FB mR mS L (k + 1) n (67108864 + (e : Int) - (cum ln (k + 1) : Int)) ((cum ln n : Int) - (cum ln (k + 1) : Int)) := by
        have q1 : (67108864 : Int) + (e : Int) - (cum ln (k + 1) : Int) = 67108864 + (e : Int) - (cum ln k : Int) - (256 + (ln k : Int)) := by simp only [cum]; omega
        have q2 : (cum ln n : Int) - (cum ln (k + 1) : Int) = (cum ln n : Int) - (cum ln k : Int) - (256 + (ln k : Int)) := by simp only [cum]; omega
        rw [q1, q2]
        exact ow'
      have HE : Hid (Hid (∃ k, k ≤ n ∧ (∀ j, j < k → cum ln j < e) ∧ Held w2 B S mR mS L nm ln F eb k n ∧
          Own w2 B O S FB mR mS L k n (67108864 + (e : Int) - (cum ln k : Int)) ((cum ln n : Int) - (cum ln k : Int)) ∧ ∃ M, Kept dT M B w w2) ∧ obAt w2 O < obAt w1 O) := by
        refine ⟨⟨k + 1, hkn, fun j h => ?_, hd', ow2, M ++ M', HK.out.join kp'⟩, ?_⟩
        · by_cases e' : j = k
          · rw [e']; exact hgt
          · exact Hj.out j (by omega)
        · rw [Hob.out, obAt_of (ow2.o7 hkn)]
          simp only [cum]
          omega
      clear HD hd' ow' ow2 kp'
      go_wp2
      exact HE.out
    · have Hall := hid hrel.out
      have HX : Hid (∃ k, k ≤ n ∧ e ≤ cum ln k ∧ (∀ j, j < k → cum ln j < e) ∧ Held wr B S mR mS L nm ln F eb k n ∧
        Own wr B O S FB mR mS L k n (67108864 + (e : Int) - (cum ln k : Int)) ((cum ln n : Int) - (cum ln k : Int)) ∧ ∃ M, Kept dT M B w wr) := ⟨k, hk, by omega, hj, hd, ow, M, kp⟩
      have hgt' : ¬ (67108864 : Int) < 67108864 + (e : Int) - (cum ln k : Int) := by omega
      clear hd ow S0 hrel hj kp Hall
      go_wp2
      go_end0
      exact ⟨rfl, HX.out⟩
end Go.Proofs.Ybulkaccc
