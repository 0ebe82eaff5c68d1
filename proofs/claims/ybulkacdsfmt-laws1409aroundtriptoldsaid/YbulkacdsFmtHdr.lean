/- The header bytes, plain: what block writes, and what the law writes. -/
import Derived.Test.YbulkacdsFmtFill
namespace Go.Proofs.YbulkacdsFmt
open Go.RowKit

/-- The limit of a length of size bytes, as uint64 arithmetic says. -/
def lim (size : Nat) : Nat := 256 ^ size % 18446744073709551616

/-- Byte i of a length m in size bytes, big end first. -/
def hb (m size i : Nat) : Value := .int .u8 ((m / 256 ^ (size - 1 - i) % 256 : Nat) : Int)
def hdr (m size : Nat) : List Value := (List.range size).map (hb m size)
theorem hdr_length (m size : Nat) : (hdr m size).length = size := by simp [hdr]

/-- The list with the first i header bytes set behind the first l. -/
def hdrSet (ys : List Value) (l size m : Nat) : Nat → List Value
  | 0 => ys
  | i + 1 => (hdrSet ys l size m i).set (l + i) (hb m size i)

theorem hdrSet_length (ys : List Value) (l size m : Nat) : ∀ i, (hdrSet ys l size m i).length = ys.length
  | 0 => rfl
  | i + 1 => by rw [hdrSet, List.length_set, hdrSet_length ys l size m i]

theorem set_mid (xs ys zs : List Value) (z u : Value) (l i : Nat) (hx : xs.length = l) (hy : ys.length = i) : ((xs ++ (ys ++ z :: zs)).set (l + i) u) = xs ++ (ys ++ u :: zs) := by
  subst hx
  subst hy
  rw [List.set_append_right _ _ (by omega), Nat.add_sub_cancel_left, List.set_append_right _ _ (Nat.le_refl _), Nat.sub_self]
  rfl

theorem hdrSet_eq (xs rest : List Value) (z : Value) (l size m : Nat) (hx : xs.length = l) : ∀ i, i ≤ size → hdrSet (xs ++ (List.replicate size z ++ rest)) l size m i = xs ++ ((List.range i).map (hb m size) ++ (List.replicate (size - i) z ++ rest))
  | 0, _ => by simp [hdrSet]
  | i + 1, hi => by
    rw [hdrSet, hdrSet_eq xs rest z l size m hx i (by omega)]
    obtain ⟨q, hq⟩ : ∃ q, size - i = q + 1 := ⟨size - i - 1, by omega⟩
    have hq' : size - (i + 1) = q := by omega
    rw [hq, List.replicate_succ, List.cons_append, set_mid xs _ _ _ _ l i hx (by simp), hq', List.range_succ, List.map_append, List.append_assoc]
    rfl

theorem hdrSet_all (xs rest : List Value) (z : Value) (l size m : Nat) (hx : xs.length = l) : hdrSet (xs ++ (List.replicate size z ++ rest)) l size m size = xs ++ (hdr m size ++ rest) := by
  rw [hdrSet_eq xs rest z l size m hx size (Nat.le_refl _), Nat.sub_self]
  simp [hdr]

theorem le8 {s : Nat} (h : s ≤ 8) : s = 0 ∨ s = 1 ∨ s = 2 ∨ s = 3 ∨ s = 4 ∨ s = 5 ∨ s = 6 ∨ s = 7 ∨ s = 8 := by omega

theorem wrap_lim (size : Nat) (h : size ≤ 8) : IntKind.u64.wrap (2 ^ (8 * size)) = ((lim size : Nat) : Int) := by
  rcases le8 h with rfl | rfl | rfl | rfl | rfl | rfl | rfl | rfl | rfl <;> decide

end Go.Proofs.YbulkacdsFmt
