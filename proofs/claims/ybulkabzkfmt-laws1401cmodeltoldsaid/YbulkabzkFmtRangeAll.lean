/- raiseRange, whole. -/
import Derived.Test.YbulkabzkFmtRangeK
namespace Go.Proofs.YbulkabzkFmt
open Go.RowKit Go.Extern.Stop Go.Stop Go.Extern

theorem rangedOf {w : World} {L : Loc} {b b' : Bool} {l l' m m' : Int} (hb : b' = b) (hl : l' = l) (hm : m' = m)
    (h : Calls Ybaf.prog 30 #[.pointer (some ⟨L.h, 0, none⟩)] w (Ranged w b l m)) : Calls Ybaf.prog 30 #[.pointer (some ⟨L.h, 0, none⟩)] w (Ranged w b' l' m') := by
  rw [hb, hl, hm]
  exact h

/-- Where no opening bet is due and the rules refuse. -/
theorem no_raise {S : St} (hd : S.dueB = false) (h : S.raiseB = false) : S.least = 0 ∧ S.most = 0 := by
  simp [St.least, St.most, hd, h]

theorem dueBet_bd {S : St} (O : S.Ok) (hd : S.dueB = true) : 0 ≤ S.dueBet ∧ S.dueBet ≤ 255 := by
  have h : S.opened < S.nops := by
    simp [St.dueB] at hd
    exact hd.2
  rw [St.dueBet, if_pos hd]
  exact ⟨O.ops0 _ h, O.ops1 _ h⟩

theorem range_any (F : Interp) (w : World) (L : Loc) (S : St) (O : S.Ok) (H : HandAt w L S) (hF : F.answers w.tape) (a1 : Addr) (s1 : ByteArray) (a2 : Addr) (V : VarsAt w a1 s1 a2) :
    Calls Ybaf.prog 30 #[.pointer (some ⟨L.h, 0, none⟩)] w (Ranged w S.raiseB S.least S.most) := by
  cases hd : S.dueB
  · by_cases hcb : S.capped = true ∧ S.cap ≤ S.raises
    · have hr : S.raiseB = false := by simp [St.raiseB, St.capB, hd, hcb]
      have hn := no_raise hd hr
      exact rangedOf hr hn.1 hn.2 (range_cap F w L S O H hF hd hcb.1 hcb.2)
    · have hcap : S.capB = false := by
        cases h : S.capped
        · simp [St.capB, h]
        · have : ¬ S.cap ≤ S.raises := fun h' => hcb ⟨h, h'⟩
          simp [St.capB, h]; omega
      by_cases hle : S.stacks S.actor ≤ S.largest
      · have hr : S.raiseB = false := by
          have : ¬ S.largest < S.stackA := by unfold St.stackA; omega
          simp [St.raiseB, hd, this]
        have hn := no_raise hd hr
        cases hc : S.capped
        · exact rangedOf hr hn.1 hn.2 (range_allU F w L S O H hd hc hF a1 s1 a2 V hle)
        · exact rangedOf hr hn.1 hn.2 (range_allK F w L S O H hd hc (fun h' => hcb ⟨hc, h'⟩) hF a1 s1 a2 V hle)
      · have hlt : S.largest < S.stackA := by unfold St.stackA; omega
        by_cases hcan : S.can < 2
        · have hr : S.raiseB = false := by
            have : ¬ 2 ≤ S.can := by omega
            simp [St.raiseB, hd, this]
          have hn := no_raise hd hr
          cases hc : S.capped
          · exact rangedOf hr hn.1 hn.2 (range_fewU w L S O H hd hc hle a1 s1 a2 V hcan)
          · exact rangedOf hr hn.1 hn.2 (range_fewK w L S O H hd hc (fun h' => hcb ⟨hc, h'⟩) hle a1 s1 a2 V hcan)
        · have hcan2 : 2 ≤ S.can := by omega
          by_cases hk0 : S.kind = 0
          · have hr : S.raiseB = true := by simp [St.raiseB, hd, hcap, hlt, hcan2, hk0]
            have hl : S.least = addUp S.largest S.rsize S.stackA := by simp [St.least, hd, hr, hk0]
            have hm : S.most = addUp S.largest S.rsize S.stackA := by simp [St.most, hd, hr, hk0]
            cases hc : S.capped
            · exact rangedOf hr hl hm (range_limU w L S O H hd hc hle hcan hk0)
            · exact rangedOf hr hl hm (range_limK w L S O H hd hc (fun h' => hcb ⟨hc, h'⟩) hle hcan hk0)
          · by_cases hk1 : S.kind = 1
            · have hr : S.raiseB = true := by simp [St.raiseB, hd, hcap, hlt, hcan2, hk1]
              have hl : S.least = addUp S.largest S.step S.stackA := by simp [St.least, hd, hr, hk1]
              have hm : S.most = S.stackA := by simp [St.most, hd, hr, hk1]
              cases hc : S.capped
              · exact rangedOf hr hl hm (range_nolU w L S O H hd hc hle hcan hk1)
              · exact rangedOf hr hl hm (range_nolK w L S O H hd hc (fun h' => hcb ⟨hc, h'⟩) hle hcan hk1)
            · have hk : ¬ S.kind ≤ 1 := by omega
              have hr : S.raiseB = false := by simp [St.raiseB, hd, hk]
              have hn := no_raise hd hr
              cases hc : S.capped
              · exact rangedOf hr hn.1 hn.2 (range_potU F w L S O H hd hc hle hcan hF hk)
              · exact rangedOf hr hn.1 hn.2 (range_potK F w L S O H hd hc (fun h' => hcb ⟨hc, h'⟩) hle hcan hF hk)
  · have hr : S.raiseB = true := by simp [St.raiseB, hd]
    exact rangedOf hr (by simp [St.least, hd]) (by simp [St.most, hd]) (range_due w L S O H hd (dueBet_bd O hd))

end Go.Proofs.YbulkabzkFmt
