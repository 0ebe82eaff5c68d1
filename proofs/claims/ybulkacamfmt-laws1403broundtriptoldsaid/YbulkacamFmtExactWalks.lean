/- The walks of LawS1403BExact. -/
import Derived.Test.YbulkacamFmtFacts
import Derived.Test.YbulkacamFmtShelf
import Derived.WalkKit
import Derived.WalkSpells
import Derived.WalkLawsBesides
import Derived.Lib.EndianBits
namespace Go.Proofs.YbulkacamFmt
open Go.RowKit Go.Extern.Stop Go.Stop Go.Extern
attribute [local go_sem] Ybaf.call11 Ybaf.guard Ybaf.fmt0 Ybaf.fmt0r Ybaf.op22_100 Ybaf.op3_100 Ybaf.op22_100w Ybaf.op3_100w Ybaf.ptr45 Ybaf.elem45 Ybaf.isError45

theorem or_low (m : Nat) (b : UInt8) (hm : m < 16777216) : bits .or .u32 ((m : Int) * 256 % 4294967296) (b.toNat : Int) = ((m * 256 + b.toNat : Nat) : Int) := by
  have hb := b.toNat_lt
  have h := u32_or8 (x := ((m * 256 : Nat) : Int)) (y := (b.toNat : Int)) (by omega) (by omega) (by omega) (by omega) (by omega)
  rw [u32_or_nat _ _ (by omega) (by omega), Nat.or_comm, ← u32_or_nat _ _ (by omega) (by omega)] at h
  rw [show (m : Int) * 256 % 4294967296 = ((m * 256 : Nat) : Int) by omega, h]
  omega

set_option maxHeartbeats 400000 in
theorem u32_bad (F : Interp) (code flags vendor : Int) (a : Option Addr) (len cap : Nat) (w : World) (hF : F.answers w.tape) (hl : ((len : Int) != 4) = true) :
    Calls Ybaf.prog 5 #[.agg #[.int .u32 code, .int .u8 flags, .int .u32 vendor, .slice a len cap]] w fun e w' => (∃ b, e = .returned (.tuple #[.int .u32 0, .iface 45 (.pointer (some b))])) ∧ Below w.heap.size w w' := by
  have hF' := answers_open hF
  go_enter Ybaf.func5, Ybaf.ntmps5
  go_wp2
  go_ret2
  exact ⟨⟨_, rfl⟩, ((((Below.refl _ w).alloc (Nat.le_refl _) _).alloc (by simp) _).alloc (by simp; omega) _).drew⟩

set_option maxHeartbeats 400000 in
theorem u32_ok (code flags vendor : Int) (g o cap : Nat) (b0 b1 b2 b3 : UInt8) (w : World)
    (c0 : w.cell? ⟨g, o, none⟩ = some (.int .u8 b0.toNat)) (c1 : w.cell? ⟨g, o + 1, none⟩ = some (.int .u8 b1.toNat)) (c2 : w.cell? ⟨g, o + 2, none⟩ = some (.int .u8 b2.toNat)) (c3 : w.cell? ⟨g, o + 3, none⟩ = some (.int .u8 b3.toNat)) :
    Calls Ybaf.prog 5 #[.agg #[.int .u32 code, .int .u8 flags, .int .u32 vendor, .slice (some ⟨g, o, none⟩) 4 cap]] w fun e w' => e = .returned (.tuple #[.int .u32 (Lib.beNat [b0, b1, b2, b3] : Nat), .nilIface]) ∧ Below w.heap.size w w' := by
  go_enter Ybaf.func5, Ybaf.ntmps5
  go_wp2_with fail
  refine (Ybaf.binary_BE_Uint32 g o 4 cap b0 b1 b2 b3 _ (by omega) (cell_later ((Below.refl _ w).alloc (Nat.le_refl _) _) c0) (cell_later ((Below.refl _ w).alloc (Nat.le_refl _) _) c1) (cell_later ((Below.refl _ w).alloc (Nat.le_refl _) _) c2) (cell_later ((Below.refl _ w).alloc (Nat.le_refl _) _) c3)).mono ?_
  rintro e w1 ⟨rfl, hb⟩
  go_wp2
  go_ret2
  exact ⟨rfl, ((Below.refl _ w).alloc (Nat.le_refl _) _).trans (hb.mono (by simp))⟩

theorem law_long (code flags vendor : Int) (a : Option Addr) (len cap : Nat) (w : World) (hl : 1024 < (len : Int)) :
    Calls Ybaf.prog 3 #[.int .u32 code, .int .u8 flags, .int .u32 vendor, .slice a len cap] w fun e w' => e = .returned (.bool true) ∧ Below w.heap.size w w' := by
  go_enter Ybaf.func3, Ybaf.ntmps3
  go_wp2
  go_ret
  exact ⟨rfl, Below.refl _ _⟩

set_option maxHeartbeats 400000 in
theorem law_bad (F : Interp) (code flags vendor : Int) (a : Option Addr) (len cap : Nat) (w : World) (hF : F.answers w.tape) (hl : (len : Int) ≤ 1024) (hn : ((len : Int) != 4) = true) :
    Calls Ybaf.prog 3 #[.int .u32 code, .int .u8 flags, .int .u32 vendor, .slice a len cap] w fun e w' => e = .returned (.bool true) ∧ Below w.heap.size w w' := by
  go_enter Ybaf.func3, Ybaf.ntmps3
  go_wp2_with fail
  refine (u32_bad F code flags vendor a len cap _ (by exact hF) hn).mono ?_
  rintro e w1 ⟨⟨b, rfl⟩, hb⟩
  go_wp2
  go_ret
  exact ⟨rfl, ((Below.refl _ w).alloc (Nat.le_refl _) _).trans (hb.mono (by simp))⟩

set_option maxHeartbeats 400000 in
theorem law_ok (code flags vendor : Int) (g o cap : Nat) (b0 b1 b2 b3 : UInt8) (w : World)
    (c0 : w.cell? ⟨g, o, none⟩ = some (.int .u8 b0.toNat)) (c1 : w.cell? ⟨g, o + 1, none⟩ = some (.int .u8 b1.toNat)) (c2 : w.cell? ⟨g, o + 2, none⟩ = some (.int .u8 b2.toNat)) (c3 : w.cell? ⟨g, o + 3, none⟩ = some (.int .u8 b3.toNat)) :
    Calls Ybaf.prog 3 #[.int .u32 code, .int .u8 flags, .int .u32 vendor, .slice (some ⟨g, o, none⟩) 4 cap] w fun e w' => e = .returned (.bool true) ∧ Below w.heap.size w w' := by
  have l0 := b0.toNat_lt
  have l1 := b1.toNat_lt
  have l2 := b2.toNat_lt
  have l3 := b3.toNat_lt
  have B1 := fun x => (Below.refl w.heap.size w).alloc (Nat.le_refl _) x
  go_enter Ybaf.func3, Ybaf.ntmps3
  go_wp2_with fail
  refine (u32_ok code flags vendor g o cap b0 b1 b2 b3 _ (cell_later (B1 _) c0) (cell_later (B1 _) c1) (cell_later (B1 _) c2) (cell_later (B1 _) c3)).mono ?_
  rintro e w1 ⟨rfl, hb⟩
  have hb' := (B1 _).trans (hb.mono (by simp))
  have d0 := cell_later hb' c0
  have d1 := cell_later hb' c1
  have d2 := cell_later hb' c2
  have d3 := cell_later hb' c3
  clear B1 c0 c1 c2 c3
  go_wp2
  go_loop [12, 13] (fun x i => ∃ k : Nat, k ≤ 4 ∧ i = .int .i64 k ∧ x = .int .u32 (Lib.beNat ([b0, b1, b2, b3].take k) : Nat)) (fun _ i => 4 - (intOf i).toNat)
  case atStart => exact ⟨0, Nat.zero_le _, rfl, rfl⟩
  case round =>
    obtain ⟨k, hk, rfl, rfl⟩ := hrel
    match k, hk with
    | 0, _ =>
      go_wp2
      exact ⟨⟨1, by omega, rfl, congrArg _ (or_low (Lib.beNat []) b0 (by decide))⟩, by decide⟩
    | 1, _ =>
      go_wp2
      exact ⟨⟨2, by omega, rfl, congrArg _ (or_low (Lib.beNat [b0]) b1 (by simp [Lib.beNat, Lib.beFrom]; omega))⟩, by decide⟩
    | 2, _ =>
      go_wp2
      exact ⟨⟨3, by omega, rfl, congrArg _ (or_low (Lib.beNat [b0, b1]) b2 (by simp [Lib.beNat, Lib.beFrom]; omega))⟩, by decide⟩
    | 3, _ =>
      go_wp2
      exact ⟨⟨4, by omega, rfl, congrArg _ (or_low (Lib.beNat [b0, b1, b2]) b3 (by simp [Lib.beNat, Lib.beFrom]; omega))⟩, by decide⟩
    | 4, _ =>
      go_wp2
      go_ret
      exact ⟨by simp [Lib.beNat], hb'⟩

end Go.Proofs.YbulkacamFmt
