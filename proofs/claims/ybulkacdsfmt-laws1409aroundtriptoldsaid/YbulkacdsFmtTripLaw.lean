/- LawS1409ARoundTrip: what is written is what is read; bytes.Equal. -/
import Derived.Test.YbulkacdsFmtDecSec
import Derived.Laws.BytesArg
set_option linter.unusedVariables false
set_option linter.unusedSimpArgs false
namespace Go.Proofs.YbulkacdsFmt
open Go.RowKit Go.Extern.Stop Go.Stop Go.Extern

theorem certBytes_length (cl : Nat → Nat) (cf : Nat → Nat → Int) : ∀ n, (certBytes cl cf n).length = certLen cl n
  | 0 => rfl
  | n + 1 => by
    rw [certBytes, List.length_append, certBytes_length cl cf n, certLen]
    simp [hdr_length, cellsOf_length]
    omega

theorem sec_form (n : Nat) (cl : Nat → Nat) (cf : Nat → Nat → Int) (ha sa ty sha : Int) (l : Nat) (f : Nat → Int) (lv : Nat) (fv : Nat → Int) :
    secBytes n cl cf ha sa ty sha l f lv fv = hdr (certLen cl n) 2 ++ (certBytes cl cf n ++ (.int .u8 ha :: .int .u8 sa :: .int .u8 ty :: (hdr (if ty = 3 then 0 else 1 + 1 + (cellsOf f l).length) 2 ++ ((if ty = 3 then [] else .int .u8 sha :: (hdr (cellsOf f l).length 1 ++ (cellsOf f l ++ []))) ++ (hdr (cellsOf fv lv).length 2 ++ (cellsOf fv lv ++ [])))))) := by
  by_cases h3 : ty = 3
  · simp [secBytes, sigBytes, sgnBytes, sgnLen, h3, cellsOf_length]
  · simp [secBytes, sigBytes, sgnBytes, sgnLen, h3, cellsOf_length]

/-- The string of the first l bytes. -/
def strTo (f : Nat → Int) (l : Nat) : ByteArray := strOfNums ((List.range l).map f)

theorem getD_map (f : Nat → Int) (l i : Nat) (h : i < l) : ((List.range l).map f).getD i 0 = f i := by
  rw [List.getD_eq_getElem?_getD]
  simp [h]

theorem conv_in {w : World} {a : Option Addr} {b o l : Nat} (c : Nat) {f : Nat → Int} (hB : Bytes w a b o l f) : (convert 22 9 (.slice a l c)).run Ybaf.prog w = .ok (.string (strTo f l)) w := by
  rcases Nat.eq_zero_or_pos l with rfl | h0
  · rcases a with _ | ad
    · exact run_convert_bytes_nil w 22 5 Ybaf.underlying22 Ybaf.underlying5 0 c 9 Ybaf.underlying9
    · rw [run_convert_bytes_string w 22 9 5 _ _ _ Ybaf.underlying22 Ybaf.underlying5 Ybaf.underlying9]
      exact run_bytesToString w ad 0 c [] (by simp [loadCells, loadCellsFrom])
  · obtain ⟨rfl, -⟩ := hB 0 h0
    exact run_convert_bytes_arg w 22 5 Ybaf.underlying22 Ybaf.underlying5 b o l c ((List.range l).map f) (by simp) (fun i hi => by rw [getD_map f l i hi]; exact (hB i hi).2.1) 9 Ybaf.underlying9

theorem conv_out {w : World} {g : Nat} {v : Value} {f : Nat → Int} {l : Nat} (h : Out w g v (cellsOf f l)) : (convert 22 9 v).run Ybaf.prog w = .ok (.string (strTo f l)) w := by
  obtain ⟨o, rfl, hr⟩ := h.ex
  rw [cellsOf_length]
  exact run_convert_bytes_arg w 22 5 Ybaf.underlying22 Ybaf.underlying5 g o l l ((List.range l).map f) (by simp) (fun i hi => by
    rw [getD_map f l i hi, hr i (by rw [cellsOf_length]; exact hi)]
    exact cellsOf_get f l i hi) 9 Ybaf.underlying9

set_option maxHeartbeats 800000 in
theorem eq_any (w : World) (a1 a2 : Option Addr) (n1 c1 n2 c2 : Nat) (s : ByteArray) (h1 : (convert 22 9 (.slice a1 n1 c1)).run Ybaf.prog w = .ok (.string s) w) (h2 : (convert 22 9 (.slice a2 n2 c2)).run Ybaf.prog w = .ok (.string s) w) :
    Calls Ybaf.prog 8 #[.slice a1 n1 c1, .slice a2 n2 c2] w fun e w' => e = .returned (.bool true) ∧ w' = w := by
  go_enter Ybaf.func8, Ybaf.ntmps8
  go_wp2
  go_ret
  exact ⟨by simp, rfl⟩
end Go.Proofs.YbulkacdsFmt
