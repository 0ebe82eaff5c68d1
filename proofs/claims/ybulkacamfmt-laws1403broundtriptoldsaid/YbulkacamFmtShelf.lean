/-
  DERIVED: THE SHELF's CONTRACTS AT THIS DUMP, IN PLAIN WORDS (tools/lay-plain.mjs out of 'YbulkacamFmtShelf.lean', which tools/lay-shelf.mjs wrote): THE SAME DECLARATIONS UNDER THE SAME NAMES: 'import', 'namespace', 'open', 'def', 'theorem' AND NOTHING ELSE: no command of the shelf's: FOR A HAND-IN. Each laying: the table of numbers ('.._ren') and one theorem, a field a fact of the dump's own or the kernel's comparison; each contract: ONE APPLICATION.
-/
import Derived.Ground.MnProg
import Derived.Shelf.Bin.BEUint32
import Derived.Shelf.Bin.BEAppendUint32
import Derived.Test.YbulkacamFmtProg
namespace Go.Proofs
open Go.Shelf
def Ybaf.laysBin39_ren : Go.Shelf.Ren := ⟨fun | 39 => 8 | n => n, fun | 37 => 38 | 22 => 23 | 29 => 22 | 0 => 0 | 5 => 5 | 45 => 30 | n => n, fun | n => n⟩
theorem Ybaf.laysBin39 : Go.Proofs.LaysBin.n39 Ybaf.prog Ybaf.laysBin39_ren := {
  mixed := by kernel_rfl
  f39 := Ybaf.func8.trans (congrArg some (by kernel_rfl))
  t0 := Ybaf.underlying0
  a0 := Ybaf.isAgg0
  z0 := Ybaf.sizeOf0
  v0 := Ybaf.zeroValue0
  i0 := by kernel_rfl
  t5 := Ybaf.underlying5
  a5 := Ybaf.isAgg5
  z5 := Ybaf.sizeOf5
  v5 := Ybaf.zeroValue5
  i5 := by kernel_rfl
  t22 := Ybaf.underlying23
  a22 := Ybaf.isAgg23
  z22 := Ybaf.sizeOf23
  v22 := Ybaf.zeroValue23
  i22 := by kernel_rfl
  t29 := Ybaf.underlying22
  a29 := Ybaf.isAgg22
  z29 := Ybaf.sizeOf22
  v29 := Ybaf.zeroValue22
  i29 := by kernel_rfl
  t37 := Ybaf.underlying38
  a37 := Ybaf.isAgg38
  z37 := Ybaf.sizeOf38
  v37 := Ybaf.zeroValue38
  i37 := by kernel_rfl
  t45 := Ybaf.underlying30
  a45 := Ybaf.isAgg30
  z45 := Ybaf.sizeOf30
  v45 := Ybaf.zeroValue30
  i45 := by kernel_rfl }
open Go.RowKit in
/-- binary.BigEndian.Uint32: "Uint32 returns the uint32 representation of b[0:4].": THE NUMBER THAT THE FIRST 4 BYTES SPELL, the greatest byte first ('Lib.beNat'). Of what was there nothing has turned (the receiver, an empty struct, is laid in a new block without cells; the statement's order is drawn). (LAID: no walk: one application.) -/
theorem Ybaf.binary_BE_Uint32 (g o n c : Nat) (b0 b1 b2 b3 : UInt8) (w : World) (hn : 4 ≤ n) (c0 : w.cell? ⟨g, o, none⟩ = some (.int .u8 b0.toNat)) (c1 : w.cell? ⟨g, o + 1, none⟩ = some (.int .u8 b1.toNat)) (c2 : w.cell? ⟨g, o + 2, none⟩ = some (.int .u8 b2.toNat)) (c3 : w.cell? ⟨g, o + 3, none⟩ = some (.int .u8 b3.toNat)) :
    Calls Ybaf.prog 8 #[.agg #[], .slice (some ⟨g, o, none⟩) n c] w fun e w' => e = .returned (.int .u32 (Lib.beNat [b0, b1, b2, b3])) ∧ Below w.heap.size w w' := Any.binary_BE_Uint32 Ybaf.laysBin39 g o n c b0 b1 b2 b3 w hn c0 c1 c2 c3
def Ybaf.laysBin41_ren : Go.Shelf.Ren := ⟨fun | 41 => 10 | n => n, fun | 37 => 38 | 22 => 23 | 29 => 22 | 0 => 0 | 45 => 30 | 5 => 5 | n => n, fun | n => n⟩
theorem Ybaf.laysBin41 : Go.Proofs.LaysBin.n41 Ybaf.prog Ybaf.laysBin41_ren := {
  mixed := by kernel_rfl
  f41 := Ybaf.func10.trans (congrArg some (by kernel_rfl))
  t0 := Ybaf.underlying0
  a0 := Ybaf.isAgg0
  z0 := Ybaf.sizeOf0
  v0 := Ybaf.zeroValue0
  i0 := by kernel_rfl
  t5 := Ybaf.underlying5
  a5 := Ybaf.isAgg5
  z5 := Ybaf.sizeOf5
  v5 := Ybaf.zeroValue5
  i5 := by kernel_rfl
  t22 := Ybaf.underlying23
  a22 := Ybaf.isAgg23
  z22 := Ybaf.sizeOf23
  v22 := Ybaf.zeroValue23
  i22 := by kernel_rfl
  t29 := Ybaf.underlying22
  a29 := Ybaf.isAgg22
  z29 := Ybaf.sizeOf22
  v29 := Ybaf.zeroValue22
  i29 := by kernel_rfl
  t37 := Ybaf.underlying38
  a37 := Ybaf.isAgg38
  z37 := Ybaf.sizeOf38
  v37 := Ybaf.zeroValue38
  i37 := by kernel_rfl
  t45 := Ybaf.underlying30
  a45 := Ybaf.isAgg30
  z45 := Ybaf.sizeOf30
  v45 := Ybaf.zeroValue30
  i45 := by kernel_rfl }
open Go.RowKit in
/-- binary.BigEndian.AppendUint32: "AppendUint32 appends the bytes of v to b and returns the appended slice.": WHAT COMES BACK OWNS b's CELLS AND, BEHIND THEM, v's 4 BYTES, the greatest first ('Lib.beBytes 4 v'). Below the call's own blocks nothing has turned. (LAID: no walk: one application.) -/
theorem Ybaf.binary_BE_AppendUint32 (B n v : Nat) (hv : v < 4294967296) (sv : Value) (xs : List Value) (w : World) (hown : w.ownsRow B 5 1 sv n xs) (hBw : B ≤ w.heap.size) (hlim : n + 4 ≤ 140737488355328) :
    Calls Ybaf.prog 10 #[.agg #[], sv, .int .u32 v] w fun e w' => ∃ v', e = .returned v' ∧ w'.ownsRow B 5 1 v' (n + 4) (xs ++ Lib.byteCells (Lib.beBytes 4 v)) ∧ Below B w w' := Any.binary_BE_AppendUint32 Ybaf.laysBin41 B n v hv sv xs w hown hBw hlim
end Go.Proofs
