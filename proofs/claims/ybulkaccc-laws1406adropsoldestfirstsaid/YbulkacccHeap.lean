/- container/heap over the one share, by its contracts. -/
import Derived.Test.YbulkacccRing
set_option linter.unusedVariables false
set_option linter.unusedSimpArgs false
namespace Go.Proofs.Ybulkaccc
open Go.RowKit

set_option maxHeartbeats 800000 in
theorem up_any (w : World) (v : Value) : Calls Yba.prog 22 #[v, .int .i64 0] w fun e w' => e = .returned (.tuple #[]) ∧ w' = w := by
  go_enter Yba.func22, Yba.ntmps22
  go_wp2_with fail
  refine wp_loop_rounds 1 ?_
  rw [rounds_succ]
  go_wp2
  go_end0
  exact ⟨rfl, rfl⟩

set_option maxHeartbeats 800000 in
theorem down_any (w : World) (v : Value) : Calls Yba.prog 21 #[v, .int .i64 0, .int .i64 1] w fun e w' => e = .returned (.bool false) ∧ w' = w := by
  go_enter Yba.func21, Yba.ntmps21
  go_wp2_with fail
  refine wp_loop_rounds 1 ?_
  rw [rounds_succ]
  go_wp2
  go_ret
  exact ⟨rfl, rfl⟩

theorem i91 : Yba.prog.info? 91 = some Yba.t91 := by kernel_rfl
theorem f91 : Yba.t91.methods.find? (·.name == "Len") = some ⟨"Len", 75, #[], some (40, false)⟩ := by kernel_rfl
theorem wrap91 (w : World) (a : Addr) (s : String) : (Builtin.ssaWrapNilChk_ #[91] 91 #[.pointer (some a), strVal "", strVal s]).run Yba.prog w = .ok (.pointer (some a)) w := by kernel_rfl
theorem m_len (O : Nat) (n c : Nat) (a : Option Addr) (w : World) (h : w.cell? ⟨O, 6, none⟩ = some (.slice a n c)) : (method 232 91 (.pointer (some ⟨O, 6, none⟩)) "Len").run Yba.prog w = .ok (40, .slice a n c) w := by
  rw [method]
  simp [typeInfo, i91, f91, follow, receiverAt, run_underlying Yba.underlying91, wrap91, Place.get, go_sem, h]
theorem m_pop (a : Addr) (w : World) : (method 232 91 (.pointer (some a)) "Pop").run Yba.prog w = .ok (49, .pointer (some a)) w := by kernel_rfl

set_option maxHeartbeats 800000 in
theorem flen_any (w : World) (a : Option Addr) (n c : Nat) : Calls Yba.prog 40 #[.slice a n c] w fun e w' => e = .returned (.int .i64 n) ∧ w' = w := by
  go_enter Yba.func40, Yba.ntmps40
  go_wp2
  go_ret
  exact ⟨rfl, rfl⟩

set_option maxRecDepth 20000 in
set_option maxHeartbeats 800000 in
theorem fix_any (w : World) (O FB : Nat) (h : w.cell? ⟨O, 6, none⟩ = some (.slice (some ⟨FB, 0, none⟩) 1 1)) : Calls Yba.prog 20 #[.iface 91 (.pointer (some ⟨O, 6, none⟩)), .int .i64 0] w fun e w' => e = .returned (.tuple #[]) ∧ w' = w := by
  have HD := hid (down_any w (.iface 91 (.pointer (some ⟨O, 6, none⟩))))
  have HU := hid (up_any w (.iface 91 (.pointer (some ⟨O, 6, none⟩))))
  have HF := hid (flen_any w (some ⟨FB, 0, none⟩) 1 1)
  have hm := m_len O 1 1 _ w h
  go_enter Yba.func20, Yba.ntmps20
  go_wp2_with fail
  refine Calls.mono HF.out ?_
  rintro e w1 ⟨rfl, rfl⟩
  go_wp2_with fail
  refine Calls.mono HD.out ?_
  rintro e w1 ⟨rfl, rfl⟩
  go_wp2_with fail
  refine Calls.mono HU.out ?_
  rintro e w1 ⟨rfl, rfl⟩
  go_wp2
  go_end0
  exact ⟨rfl, rfl⟩

set_option maxRecDepth 20000 in
set_option maxHeartbeats 1600000 in
theorem pop_any (w : World) (O FB S : Nat) (cs : Array Value) (nm by_ od ix : Value) (hO : At w O cs 49) (h6 : cs[6]? = some (.slice (some ⟨FB, 0, none⟩) 1 1)) (hF : At w FB #[.pointer (some ⟨S, 0, none⟩)] 25) (hS : At w S #[nm, by_, od, ix] 29) :
    Calls Yba.prog 49 #[.pointer (some ⟨O, 6, none⟩)] w fun e w' => e = .returned (.iface 25 (.pointer (some ⟨S, 0, none⟩))) ∧ At w' O (cs.setIfInBounds 6 (.slice (some ⟨FB, 0, none⟩) 0 1)) 49 ∧ At w' S #[nm, by_, od, .int .i64 (-1)] 29 ∧ Only [O, FB, S] w w' := by
  have n1 := hO.ne hF (by decide)
  have n2 := hO.ne hS (by decide)
  have n3 := hF.ne hS (by decide)
  have n1' : FB ≠ O := fun e => n1 e.symm
  have n2' : S ≠ O := fun e => n2 e.symm
  have n3' : S ≠ FB := fun e => n3 e.symm
  have c6 := hO.cell 6 _ h6
  have z6 := hO.loose 6
  have d0 := hF.cell 0 _ rfl
  have y0 := hF.loose 0
  have x3 := hS.loose 3
  have e3 := hS.cell 3 _ rfl
  have HO := hid hO
  have HF := hid hF
  have HS := hid hS
  clear hO hF hS h6
  go_enter Yba.func49, Yba.ntmps49
  go_wp2
  go_region
  all_goals go_wp2
  all_goals go_region
  all_goals go_wp2
  all_goals go_region
  all_goals go_wp2
  all_goals go_ret
  all_goals
    refine ⟨rfl, ?_, ?_, ?_⟩
    · have h := HO.out
      simp only [At] at h ⊢
      simp only [get_same, get_drew, get_other _ _ _ _ _ n1, get_other _ _ _ _ _ n2, h, Option.map_some]
      rfl
    · have h := HS.out
      simp only [At] at h ⊢
      simp only [get_same, get_drew, get_other _ _ _ _ _ n2', get_other _ _ _ _ _ n3', h, Option.map_some]
      rfl
    · repeat (first | with_reducible refine Only.setCell ?_ _ (by simp only [List.mem_cons, true_or, or_true]) _ | with_reducible refine Only.drew ?_)
      exact Only.refl _ _

set_option maxRecDepth 20000 in
set_option maxHeartbeats 1600000 in
theorem hremove_any (w : World) (O FB S : Nat) (cs : Array Value) (nm by_ od ix : Value) (hO : At w O cs 49) (h6 : cs[6]? = some (.slice (some ⟨FB, 0, none⟩) 1 1)) (hF : At w FB #[.pointer (some ⟨S, 0, none⟩)] 25) (hS : At w S #[nm, by_, od, ix] 29) :
    Calls Yba.prog 18 #[.iface 91 (.pointer (some ⟨O, 6, none⟩)), .int .i64 0] w fun e w' => e = .returned (.iface 25 (.pointer (some ⟨S, 0, none⟩))) ∧ At w' O (cs.setIfInBounds 6 (.slice (some ⟨FB, 0, none⟩) 0 1)) 49 ∧ At w' S #[nm, by_, od, .int .i64 (-1)] 29 ∧ Only [O, FB, S] w w' := by
  have HP := hid (pop_any w O FB S cs nm by_ od ix hO h6 hF hS)
  have HF := hid (flen_any w (some ⟨FB, 0, none⟩) 1 1)
  have hm := m_len O 1 1 _ w (hO.cell 6 _ h6)
  have hp := m_pop
  clear hO h6 hF hS
  go_enter Yba.func18, Yba.ntmps18
  go_wp2_with fail
  refine Calls.mono HF.out ?_
  rintro e w1 ⟨rfl, rfl⟩
  go_wp2_with fail
  refine Calls.mono HP.out ?_
  rintro e w1 ⟨rfl, h1, h2, h3⟩
  have HE := hid (And.intro h1 (And.intro h2 h3))
  clear HP h1 h2 h3 hm
  go_wp2
  go_ret
  exact ⟨rfl, HE.out.1, HE.out.2.1, HE.out.2.2⟩
end Go.Proofs.Ybulkaccc
