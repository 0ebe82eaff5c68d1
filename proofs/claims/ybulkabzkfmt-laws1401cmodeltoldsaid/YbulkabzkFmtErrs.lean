/- fmt.Errorf by its contracts, over the calling stop: some error comes back; nothing old has turned. -/
import Derived.Test.YbulkabzkFmtFacts
import Derived.WalkKit
import Derived.WalkSpells
import Derived.WalkLawsBesides
import Derived.BigCall
namespace Go.Proofs.YbulkabzkFmt
open Go.RowKit Go.Extern.Stop Go.Stop Go.Extern
attribute [local go_sem] Ybaf.call42 Ybaf.guard Ybaf.fCall Ybaf.fCallr Ybaf.fFold1 Ybaf.fFold1r Ybaf.fFold2 Ybaf.fFold2r Ybaf.fCap Ybaf.fCapr Ybaf.fWrap Ybaf.fWrapr Ybaf.fBet Ybaf.fBetr Ybaf.act3_100 Ybaf.op3_100 Ybaf.act3_100w Ybaf.op3_100w Ybaf.act58_115 Ybaf.op58_115 Ybaf.act58_115w Ybaf.op58_115w Ybaf.act78_119w Ybaf.ptr78 Ybaf.elem78 Ybaf.isError78 Ybaf.str78 Ybaf.ptr110 Ybaf.elem110 Ybaf.isError110

/-- An error has come back; nothing old has turned. -/
def ErrBack (w : World) (e : Ending) (w' : World) : Prop := ∃ T b, e = .returned (.iface T (.pointer (some b))) ∧ Below w.heap.size w w'

set_option maxHeartbeats 800000 in
theorem errorf_call (F : Interp) (x : Int) (blk : Nat) (w : World) (hF : F.answers w.tape) (hc0 : w.cell? ⟨blk, 0, none⟩ = some (.iface 3 (.int .i64 x))) :
    Calls Ybaf.prog 21 #[.string ⟨#[99, 97, 108, 108, 32, 119, 104, 101, 110, 32, 97, 110, 32, 111, 112, 101, 110, 105, 110, 103, 32, 98, 101, 116, 32, 111, 102, 32, 37, 100, 32, 105, 115, 32, 100, 117, 101]⟩, .slice (some ⟨blk, 0, none⟩) 1 1] w (ErrBack w) := by
  have hF' := answers_open hF
  go_enter Ybaf.func21, Ybaf.ntmps21
  go_wp2
  apply rows_value Ybaf.nextTurns
  case hr =>
    go_simp
    exact ⟨rfl, rfl⟩
  case h =>
    go_wp2
    go_ret
    exact ⟨_, _, rfl, ((Below.refl _ w).alloc (Nat.le_refl _) _).drew⟩

set_option maxHeartbeats 800000 in
theorem errorf_fold1 (w : World) :
    Calls Ybaf.prog 21 #[.string ⟨#[102, 111, 108, 100, 32, 105, 110, 115, 116, 101, 97, 100, 32, 111, 102, 32, 116, 104, 101, 32, 114, 111, 117, 110, 100, 39, 115, 32, 102, 105, 114, 115, 116, 32, 111, 112, 101, 110, 105, 110, 103, 32, 98, 101, 116]⟩, .slice none 0 0] w (ErrBack w) := by
  go_enter Ybaf.func21, Ybaf.ntmps21
  go_wp2
  go_ret
  exact ⟨_, _, rfl, (Below.refl _ w).alloc (Nat.le_refl _) _⟩

set_option maxHeartbeats 800000 in
theorem errorf_fold2 (w : World) :
    Calls Ybaf.prog 21 #[.string ⟨#[102, 111, 108, 100, 32, 119, 104, 101, 110, 32, 97, 32, 99, 97, 108, 108, 32, 99, 111, 115, 116, 115, 32, 110, 111, 116, 104, 105, 110, 103]⟩, .slice none 0 0] w (ErrBack w) := by
  go_enter Ybaf.func21, Ybaf.ntmps21
  go_wp2
  go_ret
  exact ⟨_, _, rfl, (Below.refl _ w).alloc (Nat.le_refl _) _⟩

set_option maxHeartbeats 800000 in
theorem errorf_cap (F : Interp) (x y : Int) (blk : Nat) (w : World) (hF : F.answers w.tape) (hc0 : w.cell? ⟨blk, 0, none⟩ = some (.iface 3 (.int .i64 x))) (hc1 : w.cell? ⟨blk, 1, none⟩ = some (.iface 3 (.int .i64 y))) :
    Calls Ybaf.prog 21 #[.string ⟨#[114, 97, 105, 115, 101, 32, 111, 118, 101, 114, 32, 116, 104, 101, 32, 99, 97, 112, 32, 111, 102, 32, 37, 100, 32, 114, 97, 105, 115, 101, 115, 32, 105, 110, 32, 114, 111, 117, 110, 100, 32, 37, 100]⟩, .slice (some ⟨blk, 0, none⟩) 2 2] w (ErrBack w) := by
  have hF' := answers_open hF
  go_enter Ybaf.func21, Ybaf.ntmps21
  go_wp2
  apply rows_value Ybaf.nextTurns
  case hr =>
    go_simp
    exact ⟨rfl, rfl⟩
  case h =>
    go_wp2
    go_ret
    exact ⟨_, _, rfl, ((Below.refl _ w).alloc (Nat.le_refl _) _).drew⟩

set_option maxHeartbeats 800000 in
theorem errorf_wrap (F : Interp) (a : Addr) (t : ByteArray) (y : Int) (blk : Nat) (w : World) (hF : F.answers w.tape) (hc0 : w.cell? ⟨blk, 0, none⟩ = some (.iface 78 (.pointer (some a)))) (hc1 : w.cell? ⟨blk, 1, none⟩ = some (.iface 3 (.int .i64 y))) (hs : w.cell? a = some (.string t)) :
    Calls Ybaf.prog 21 #[.string ⟨#[37, 119, 32, 111, 102, 32, 37, 100]⟩, .slice (some ⟨blk, 0, none⟩) 2 2] w (ErrBack w) := by
  have hF' := answers_open hF
  have hop := Ybaf.opPlain78_119w "fmt.errorf" a t w hs
  go_enter Ybaf.func21, Ybaf.ntmps21
  go_wp2
  apply rows_value Ybaf.nextTurns
  case hr =>
    go_simp
    exact ⟨rfl, rfl⟩
  case h =>
    go_wp2
    go_ret
    exact ⟨_, _, rfl, ((Below.refl _ w).alloc (Nat.le_refl _) _).drew⟩

set_option maxHeartbeats 800000 in
theorem errorf_bet (F : Interp) (x : ByteArray) (blk : Nat) (w : World) (hF : F.answers w.tape) (hc0 : w.cell? ⟨blk, 0, none⟩ = some (.iface 58 (.string x))) :
    Calls Ybaf.prog 21 #[.string ⟨#[37, 115, 32, 98, 101, 116, 116, 105, 110, 103, 32, 105, 115, 32, 110, 111, 116, 32, 115, 117, 112, 112, 111, 114, 116, 101, 100]⟩, .slice (some ⟨blk, 0, none⟩) 1 1] w (ErrBack w) := by
  have hF' := answers_open hF
  go_enter Ybaf.func21, Ybaf.ntmps21
  go_wp2
  apply rows_value Ybaf.nextTurns
  case hr =>
    go_simp
    exact ⟨rfl, rfl⟩
  case h =>
    go_wp2
    go_ret
    exact ⟨_, _, rfl, ((Below.refl _ w).alloc (Nat.le_refl _) _).drew⟩

end Go.Proofs.YbulkabzkFmt
