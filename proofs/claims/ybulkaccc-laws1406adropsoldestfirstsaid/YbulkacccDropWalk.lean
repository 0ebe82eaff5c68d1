/- dropLocked: the walk. -/
import Derived.Test.YbulkacccKey
set_option linter.unusedVariables false
set_option linter.unusedSimpArgs false
namespace Go.Proofs.Ybulkaccc
open Go.RowKit

attribute [local go_sem ↓] loadVar52

def Tail (O H S L E : Nat) (n : Int) (Q : World → Prop) (y : World) : Prop :=
  y.cell? ⟨H, 77, none⟩ = some (.pointer (some ⟨S, 0, none⟩)) ∧ y.cell? ⟨S, 2, none⟩ = some (.pointer (some ⟨L, 0, none⟩)) ∧ y.cell? ⟨H, 78, none⟩ = some (.pointer (some ⟨E, 0, none⟩)) ∧
    Calls Yba.prog 15 #[.pointer (some ⟨L, 0, none⟩), .pointer (some ⟨E, 0, none⟩)] y.drew fun e z => (∃ v, e = .returned v) ∧ z.cell? ⟨H, 77, none⟩ = some (.pointer (some ⟨S, 0, none⟩)) ∧
      Calls Yba.prog 16 #[.pointer (some ⟨O, 0, none⟩), .pointer (some ⟨S, 0, none⟩), .int .i64 (-(256 + n))] z fun e w' => e = .returned (.tuple #[]) ∧ Q w'

theorem eqNil54 (wx : World) (a : Addr) : (binOp .eql 54 (.pointer none) (.pointer (some a))).run Yba.prog wx = .ok (.bool false) wx := by kernel_rfl

set_option maxRecDepth 100000 in
set_option maxHeartbeats 4000000 in
theorem drop_walk (w : World) (O H L S A Rb mR Lm Fm E : Nat) (s : ByteArray) (p q : Int) (bn : Nat) (ba : Option Addr) (bc : Nat) (last : Bool) (Q : World → Prop) (hn2 : bn < 256)
    (c4 : w.cell? ⟨O, 4, none⟩ = some (.map (some mR))) (h0 : w.cell? ⟨H, 0, none⟩ = some (.string s)) (h76 : w.cell? ⟨H, 76, none⟩ = some (.bool false))
    (hk : ∀ m, (keyLoad ⟨H, 1, none⟩).run Yba.prog (w.drewN m) = .ok (.agg (kb p q)) (w.drewN m))
    (r0 : w.cell? ⟨Rb, 0, none⟩ = some (.map (some Lm)))
    (k1 : ∀ m, (Instr.lookup 31 (.map (some mR)) (.string s) false).run Yba.prog (w.drewN m) = .ok (.pointer (some ⟨Rb, 0, none⟩)) (w.drewN m))
    (k2 : ∀ m, (Instr.lookup 68 (.map (some Lm)) (.agg (kb p q)) false).run Yba.prog (w.drewN m) = .ok (.pointer (some ⟨A, 0, none⟩)) (w.drewN m))
    (v0 : w.cell? ⟨A, 0, none⟩ = some (.pointer (some ⟨H, 0, none⟩))) (v1 : w.cell? ⟨A, 1, none⟩ = some (.pointer none)) (z0 : w.frozen? ⟨A, 0, none⟩ = false)
    (P1 : Hid (∀ m x, x = (w.drewN m).setCell ⟨A, 0, none⟩ (.pointer none) → x.cell? ⟨A, 0, none⟩ = some (.pointer none) ∧ x.cell? ⟨A, 1, none⟩ = some (.pointer none) ∧ x.cell? ⟨Rb, 0, none⟩ = some (.map (some Lm)) ∧
      (keyLoad ⟨H, 1, none⟩).run Yba.prog x.drew = .ok (.agg (kb p q)) x.drew ∧
      ∃ w2, (Builtin.delete_ #[68, 52] 1 #[.map (some Lm), .agg (kb p q)]).run Yba.prog x.drew = .ok (.tuple #[]) w2 ∧ w2.cell? ⟨H, 36, none⟩ = some (.slice ba bn bc) ∧ w2.cell? ⟨Rb, 0, none⟩ = some (.map (some Lm)) ∧
        ∃ ne : Int, (Builtin.len_ #[68] 3 #[.map (some Lm)]).run Yba.prog w2 = .ok (.int .i64 ne) w2 ∧ (last = false → ne ≠ 0 ∧ Tail O H S L E (bn : Int) Q w2) ∧
        (last = true → ne = 0 ∧ w2.cell? ⟨Rb, 1, none⟩ = some (.map (some Fm)) ∧ ∃ c, (Instr.range 45 (.map (some Fm))).run Yba.prog w2 = .ok (.pointer (some ⟨w2.heap.size, 0, none⟩)) (w2.alloc (.mapIter (some Fm) c #[] c)) ∧
          ∀ y, y = w2.alloc (.mapIter (some Fm) c #[] c) → (∀ ty, (Instr.next (.pointer (some ⟨w2.heap.size, 0, none⟩)) false ty).run Yba.prog y = .ok (.tuple #[.bool false]) y) ∧ y.cell? ⟨O, 4, none⟩ = some (.map (some mR)) ∧ y.cell? ⟨H, 0, none⟩ = some (.string s) ∧
            ∃ w3, (Builtin.delete_ #[31, 9] 1 #[.map (some mR), .string s]).run Yba.prog y.drew = .ok (.tuple #[]) w3 ∧ Tail O H S L E (bn : Int) Q w3))) :
    Calls Yba.prog 13 #[.pointer (some ⟨O, 0, none⟩), .pointer (some ⟨H, 0, none⟩)] w fun e w' => e = .returned (.tuple #[]) ∧ Q w' := by
  have qe := fun (wx : World) (a : Addr) => Go.run_eql_ptr_same wx a Yba.underlying54 i65
  have qn := eqNil54
  go_enter Yba.func13, Yba.ntmps13
  go_upto_region 5 with fail
  go_quiet (fail)
  go_upto_region 6 with fail
  go_quiet (fail)
  go_wp2_with fail
  generalize hx : World.setCell _ _ _ = x
  obtain ⟨x0, x1, xr, xk, w2, hdel, y36, yr, ne, hlen, hmore, hlast⟩ := P1.out _ x hx.symm
  have HM := hid hmore
  have HL := hid hlast
  clear hmore hlast P1 hx hk k1 k2 v0 v1 z0 h0 h76 r0 c4
  go_upto_region 12 with fail
  go_cut [] from 92 to 99 (fun wx => wx = w2)
  case first =>
    go_region_law (refine step_delete_run (by rfl) _ _ _ _ (by rfl) _ _ (by rfl) (by rfl) _ _ hdel ?_)
    all_goals
      go_wp2_with fail
      go_meet
      case rel => rfl
  case rest =>
  subst hcut
  clear hdel x0 x1 xr xk
  have HC := hid (cost_any _ H ba bn bc y36 (by omega))
  clear y36
  go_wp2_with fail
  refine Calls.mono HC.out ?_
  rintro e wy ⟨rfl, rfl⟩
  clear HC
  cases last with
  | false =>
    obtain ⟨hne, ta, tb, tc, tk⟩ := HM.out rfl
    have TC := hid tk
    clear tk HM HL
    go_upto_region 20 with fail
    go_cut [] from 107 to 140 (fun wx => wx.cell? ⟨H, 77, none⟩ = some (.pointer (some ⟨S, 0, none⟩)) ∧ Hid (Calls Yba.prog 16 #[.pointer (some ⟨O, 0, none⟩), .pointer (some ⟨S, 0, none⟩), .int .i64 (-(256 + (bn : Int)))] wx fun e w' => e = .returned (.tuple #[]) ∧ Q w'))
    case first =>
      go_region_with (go_at_call 15; refine Calls.mono TC.out ?_; rintro e z ⟨⟨v, rfl⟩, tz, tk⟩; have TK := hid tk; clear tk)
      all_goals
        go_wp2_with fail
        go_meet
        case rel => exact ⟨tz, TK⟩
    case rest =>
      obtain ⟨tz, TK⟩ := hcut
      clear TC ta tb tc
      go_wp2_with fail
      refine Calls.mono TK.out ?_
      rintro e w' ⟨rfl, hq⟩
      have HQ := hid hq
      clear hq TK
      go_wp2
      go_end0
      exact ⟨rfl, HQ.out⟩
  | true =>
    obtain ⟨hne, yf, c, hrange, hy⟩ := HL.out rfl
    subst hne
    have HY := hid hy
    clear hy HM HL
    go_wp2_with fail
    generalize hy : World.alloc _ _ = y
    obtain ⟨hnext, y4, y0, w3, hdel, ta, tb, tc, tk⟩ := HY.out y hy.symm
    have TC := hid tk
    clear tk HY hy
    refine wp_loop_rounds 1 ?_
    rw [rounds_succ]
    go_upto_region 19 with fail
    go_cut [] from 121 to 128 (fun wx => wx = w3)
    case first =>
      go_region_law (refine step_delete_run (by rfl) _ _ _ _ (by rfl) _ _ (by rfl) (by rfl) _ _ hdel ?_)
      all_goals
        go_wp2_with fail
        go_meet
        case rel => rfl
    case rest =>
    subst hcut
    clear hdel hnext y4 y0
    go_upto_region 20 with fail
    go_cut [] from 129 to 140 (fun wx => wx.cell? ⟨H, 77, none⟩ = some (.pointer (some ⟨S, 0, none⟩)) ∧ Hid (Calls Yba.prog 16 #[.pointer (some ⟨O, 0, none⟩), .pointer (some ⟨S, 0, none⟩), .int .i64 (-(256 + (bn : Int)))] wx fun e w' => e = .returned (.tuple #[]) ∧ Q w'))
    case first =>
      go_region_with (go_at_call 15; refine Calls.mono TC.out ?_; rintro e z ⟨⟨v, rfl⟩, tz, tk⟩; have TK := hid tk; clear tk)
      all_goals
        go_wp2_with fail
        go_meet
        case rel => exact ⟨tz, TK⟩
    case rest =>
      obtain ⟨tz, TK⟩ := hcut
      clear TC ta tb tc
      go_wp2_with fail
      refine Calls.mono TK.out ?_
      rintro e w' ⟨rfl, hq⟩
      have HQ := hid hq
      clear hq TK
      go_wp2
      go_end0
      exact ⟨rfl, HQ.out⟩
end Go.Proofs.Ybulkaccc
