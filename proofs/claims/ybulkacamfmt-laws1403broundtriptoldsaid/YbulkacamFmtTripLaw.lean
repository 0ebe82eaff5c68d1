/- LawS1403BRoundTrip: the law's own walk. -/
import Derived.Test.YbulkacamFmtTripWalks
namespace Go.Proofs.YbulkacamFmt
open Go.RowKit Go.Extern.Stop Go.Stop Go.Extern

theorem be4 (v : Nat) (hv : v < 4294967296) : ∃ b0 b1 b2 b3 : UInt8, Lib.byteCells (Lib.beBytes 4 v) = [.int .u8 b0.toNat, .int .u8 b1.toNat, .int .u8 b2.toNat, .int .u8 b3.toNat] ∧ Lib.beNat [b0, b1, b2, b3] = v := by
  refine ⟨(v / 256 / 256 / 256 % 256).toUInt8, (v / 256 / 256 % 256).toUInt8, (v / 256 % 256).toUInt8, (v % 256).toUInt8, rfl, ?_⟩
  simp only [Lib.beNat, Lib.beFrom, Lib.toUInt8_mod]
  omega

set_option maxHeartbeats 400000 in
theorem trip_any (code vendor : Int) (m : Bool) (v : Nat) (hv : v < 4294967296) (w : World) :
    Calls Ybaf.prog 4 #[.int .u32 code, .int .u32 vendor, .bool m, .int .u32 v] w fun e w' => e = .returned (.bool true) ∧ Below w.heap.size w w' := by
  obtain ⟨b0, b1, b2, b3, hbc, hbe⟩ := be4 v hv
  go_enter Ybaf.func4, Ybaf.ntmps4
  go_wp2_with fail
  refine (def_u32 code vendor m v hv _).mono ?_
  rintro e w1 ⟨fl, g, cap, rfl, hc1, hb1⟩
  rw [hbc] at hc1
  have c0 := hc1 0 _ rfl
  have c1 := hc1 1 _ rfl
  have c2 := hc1 2 _ rfl
  have c3 := hc1 3 _ rfl
  have HB : Hid (Lib.beNat [b0, b1, b2, b3] = v) := hbe
  clear hc1 hbc hbe
  obtain ⟨hd1, hf1⟩ := bcell hb1
  go_wp2_with fail
  have B1 := fun x => (Below.refl w1.heap.size w1).alloc (Nat.le_refl _) x
  refine (u32_ok code fl vendor g 0 cap b0 b1 b2 b3 _ (cell_later (B1 _) c0) (cell_later (B1 _) c1) (cell_later (B1 _) c2) (cell_later (B1 _) c3)).mono ?_
  rintro e w2 ⟨rfl, hb2⟩
  rw [HB.out]
  obtain ⟨hd2, hf2⟩ := bcell hb2
  go_wp2
  go_ret
  refine ⟨rfl, (((Below.refl _ w).alloc (Nat.le_refl _) _).trans (hb1.mono (by simp))).trans ((B1 _).trans (hb2.mono (by simp)) |>.mono ?_)⟩
  have := hb1.size; simp at this; omega
end Go.Proofs.YbulkacamFmt
