/- The law's own walk. -/
import Derived.Test.YbulkacccFin
set_option linter.unusedVariables false
set_option linter.unusedSimpArgs false
namespace Go.Proofs.Ybulkaccc
open Go.RowKit
attribute [local go_sem ↓] loadVar52 build65
theorem drewN_heap (w : World) (n : Nat) : (w.drewN n).heap = w.heap := by
  induction n generalizing w with
  | zero => rfl
  | succ n ih => exact (ih w.drew).trans rfl
theorem bel_dN (w : World) (n : Nat) {B : Nat} : Below B w (w.drewN n) := by
  induction n with
  | zero => exact Below.refl _ _
  | succ n ih => exact ih.drew
set_option maxRecDepth 100000 in
set_option maxHeartbeats 16000000 in
theorem law_walk (a0 : Option Addr) (len0 cap0 : Nat) (a1 : Option Addr) (len1 cap1 : Nat) (a2 : Nat) (w : World) (hn : len0 ≤ 1024) (ha2 : a2 < 4294967296) (ln sel : Nat → Nat)
    (hL : Hid (∀ k, k < len0 → ∃ x, a0 = some x ∧ x.block < w.heap.size ∧ w.cell? (x.add k) = some (.int .u8 (ln k : Int))))
    (hlb : Hid (∀ k, k < len0 → ln k < 256))
    (hsb : Hid (∀ k, k < len1 → sel k < 256))
    (hS : Hid (∀ k, k < len1 → ∃ x, a1 = some x ∧ x.block < w.heap.size ∧ w.cell? (x.add k) = some (.int .u8 (sel k : Int)))) :
    Calls Yba.prog 3 #[.slice a0 len0 cap0, .slice a1 len1 cap1, .int .u32 (a2 : Int)] w fun e w' => e = .returned (.bool true) ∧ Below w.heap.size w w' := by
  have hn' : ¬ ((1024 : Int) < (len0 : Int)) := by omega
  have mk := mkMap
  have mk2 := mkHs len0 hn
  have mk3 := mkBody
  go_enter Yba.func3, Yba.ntmps3
  go_wp2_with fail
  refine Calls.mono (new_any _) ?_
  rintro e w1 ⟨rfl, h1, O1⟩
  have HE := hid (And.intro h1 O1)
  clear h1 O1
  go_upto_region 8 with fail
  generalize hW : World.alloc _ _ = W
  have ST := hid (setup w w1 len0 (nmOf len1 sel) ln ⟨fun _ => 0, fun _ => 0, fun _ => 0, fun _ => 0, fun _ => 0⟩ (fun _ => 0) (by simpa using HE.out.1) HE.out.2 W hW.symm)
  clear HE hW
  generalize w1.heap.size + 1 + 1 + 1 + 1 + 1 = HS at ST ⊢
  generalize w1.heap.size + 1 + 1 + 1 + 1 = O at ST ⊢
  generalize w1.heap.size + 1 + 1 + 1 = mP at ST ⊢
  generalize w1.heap.size + 1 + 1 = mS at ST ⊢
  generalize w1.heap.size + 1 = mR at ST ⊢
  generalize w1.heap.size = S at ST ⊢
  generalize w.heap.size + 1 = L at ST ⊢
  clear mk2
  go_wp2_with fail
  go_loopw [12, 13] (fun t i wr => Hid (∃ (k : Nat) (F : Where) (eb : Nat → Nat), k ≤ len0 ∧ i = .int .i64 (k : Int) ∧ t = .int .i64 (cum ln k : Int) ∧ Cst w wr w.heap.size O S mR mS mP L HS len0 F.hb k ∧ Held wr w.heap.size S mR mS L (nmOf len1 sel) ln F eb 0 k)) (fun _ i _ => len0 - (intOf i).toNat)
  case atStart => exact ⟨0, _, _, Nat.zero_le _, rfl, rfl, ST.out.1, ST.out.2⟩
  case round =>
    obtain ⟨k, F, eb, hk, rfl, rfl, C, hd⟩ := hrel.out
    clear ST hrel
    have HC := hid C
    have HD := hid hd
    by_cases hlt : k < len0
    · have q0 := C.hN.cell 0 _ rfl
      have q1 := C.hN.cell 1 _ rfl
      have q2 := C.hN.cell 2 _ rfl
      have bel := C.bel
      clear C hd
      go_upto_if 53 with fail
      go_cut [14] from 50 to 61 (fun v wx => v = .string (nmOf len1 sel k) ∧ wx = wr)
      case first =>
        by_cases hs : k < len1
        · obtain ⟨x, hx, xb, xc⟩ := hS.out k hs
          have xc' : wr.cell? (x.add k) = some (.int .u8 (sel k : Int)) := (bel.cell (by rw [add_block]; exact xb)).trans xc
          subst hx
          clear xc
          have hb3 := hsb.out k hs
          have hr : sel k % 3 = 0 ∨ sel k % 3 = 1 ∨ sel k % 3 = 2 := by omega
          rcases hr with hr | hr | hr
          · have e1 : ((sel k : Nat) : Int).tmod 3 = 0 := by rw [Int.tmod_eq_emod_of_nonneg (by omega)]; omega
            have hv : nmOf len1 sel k = n0 := by simp [nmOf, name3, hs, hr]
            go_wp2_with fail
            go_meet
            case rel => exact ⟨by rw [hv], rfl⟩
          · have e1 : ((sel k : Nat) : Int).tmod 3 = 1 := by rw [Int.tmod_eq_emod_of_nonneg (by omega)]; omega
            have hv : nmOf len1 sel k = n1 := by simp [nmOf, name3, hs, hr]
            go_wp2
            go_meet
            case rel => exact ⟨by rw [hv], rfl⟩
          · have e1 : ((sel k : Nat) : Int).tmod 3 = 2 := by rw [Int.tmod_eq_emod_of_nonneg (by omega)]; omega
            have hv : nmOf len1 sel k = n2 := by simp [nmOf, name3, hs, hr]
            go_wp2
            go_meet
            case rel => exact ⟨by rw [hv], rfl⟩
        · have hv : nmOf len1 sel k = n0 := by simp [nmOf, name3, hs]
          go_wp2
          go_meet
          case rel => exact ⟨by rw [hv], rfl⟩
      case rest =>
        obtain ⟨rfl, rfl⟩ := hcut
        clear q0 q1 q2
        go_upto_region 18 with fail
        generalize hx1 : World.alloc _ _ = x1
        have aK : At x1 wc.heap.size (kb (kp k) (kq k)) 52 := by rw [← hx1]; exact heap_alloc_new wc _
        have G1 : Only [] wc x1 := by rw [← hx1]; exact (Only.refl _ wc).alloc _
        have e1 : kp k = (k : Int) % 256 := by simp only [kp]; omega
        have e2 : kq k = (k : Int) / 256 := by simp only [kq]; omega
        generalize wc.heap.size = KB at aK ⊢
        obtain ⟨x0, hx0, xb, xc⟩ := hL.out k hlt
        have xc' : x1.cell? (x0.add k) = some (.int .u8 (ln k : Int)) := ((bel.trans (G1.below (by simp) bel.size)).cell (by rw [add_block]; exact xb)).trans xc
        have hb' := hlb.out k hlt
        have mk4 := mkBody (ln k) hb'
        have kl1 := key_at (w := x1.drew) aK
        have kl2 := key_at (w := (x1.alloc (.cells (zers (ln k)) 5)).drew) ((show At x1.drew _ _ 52 from aK).keep ((Only.refl [] x1.drew).alloc _) (by simp))
        have ab := ans_build
        subst hx0
        have HG := hid (And.intro aK G1)
        clear xc hx1 aK G1 mk3 bel
        go_cut [16] from 69 to 82 (fun h wx => h = .pointer (some ⟨x1.heap.size + 1, 0, none⟩) ∧ wx = (x1.drew.alloc (.cells (zers (ln k)) 5)).alloc (.cells (hcells (nmOf len1 sel k) (kp k) (kq k) (some ⟨x1.heap.size, 0, none⟩) (ln k) (ln k) S (k + 1)) 65))
        case first =>
          go_region
          all_goals
            go_wp2_with fail
            go_meet
            case rel => exact ⟨rfl, rfl⟩
        case rest =>
          obtain ⟨rfl, hx2⟩ := hcut
          have SN := hid (stage_new HC.out HD.out (by omega) wc (by rw [hx2]; exact (HG.out.2.drew.alloc _).alloc _) (some ⟨x1.heap.size, 0, none⟩) (ln k) (k + 1) KB (H := x1.heap.size + 1)
            (by rw [hx2]; unfold At; have := heap_alloc_new (x1.drew.alloc (.cells (zers (ln k)) 5)) (.cells (hcells (nmOf len1 sel k) (kp k) (kq k) (some ⟨x1.heap.size, 0, none⟩) (ln k) (ln k) S (k + 1)) 65); simpa using this)
            (by rw [hx2]; exact HG.out.1.keep (((Only.refl [] x1).drew.alloc _).alloc _) (by simp)) (by have := HC.out.bel.size; have := HG.out.2.size; omega))
          generalize x1.heap.size + 1 = H at SN ⊢
          clear e1 e2 hx2 HG kl1 kl2 ab mk4 xc'
          have s2 := SN.out.1
          have SN2 := hid SN.out.2
          clear SN
          go_upto_region 19 with fail
          go_wp2_with fail
          refine Calls.mono SN2.out ?_
          rintro e y ⟨E, rfl, y78, yz, hz⟩
          have HZ := hid hz
          clear hz SN2 HC HD
          go_upto_region 20 with fail
          generalize hz : World.setCell _ _ _ = z
          obtain ⟨F', eb', M⟩ := HZ.out z hz.symm
          have HM := hid M
          clear HZ hz y78 yz s2
          have hsz := name3_len (if k < len1 then sel k % 3 else 0)
          have o4 : z.cell? ⟨O, 4, none⟩ = some (.map (some mR)) := M.cst.hO.cell 4 _ rfl
          clear M
          go_cut [17] from 93 to 98 (fun v wx => wx = z ∧ ∃ (r : Option Addr) (b : Bool), v = .pointer r ∧ (∀ wy, (binOp .eql 67 (.pointer r) (.pointer none)).run Yba.prog wy = .ok (.bool b) wy) ∧ (b = false ∧ (∃ j, j < k ∧ nmOf len1 sel j = nmOf len1 sel k) ∧ r = some ⟨F'.rb (nmOf len1 sel k), 0, none⟩ ∨ b = true ∧ (∀ j, j < k → nmOf len1 sel j ≠ nmOf len1 sel k) ∧ r = none))
          case first =>
            by_cases hex : ∃ j, j < k ∧ nmOf len1 sel j = nmOf len1 sel k
            · obtain ⟨j, hj, ej⟩ := hex
              have lk := HM.out.reps.top.hit strLaw Yba.underlying31 (str_key _ hsz) ⟨j, Nat.zero_le _, hj, congrArg Value.string ej.symm, rfl⟩
              rw [ej] at lk
              have lk' : (Instr.lookup 31 (.map (some mR)) (.string (nmOf len1 sel k)) false).run Yba.prog z = _ := lk
              have HJ := hid (And.intro hj ej)
              clear lk ej
              go_wp2_with fail
              go_meet
              case rel => exact ⟨rfl, _, false, rfl, fun wy => eqSome67 wy _, .inl ⟨rfl, ⟨j, HJ.out.1, HJ.out.2⟩, rfl⟩⟩
            · have lk := HM.out.reps.top.miss strLaw Yba.underlying31 (str_key _ hsz) (by rintro v ⟨j, _, j2, j3, _⟩; exact hex ⟨j, j2, (Value.string.inj j3).symm⟩) (z := .pointer none) (by kernel_rfl)
              have lk' : (Instr.lookup 31 (.map (some mR)) (.string (nmOf len1 sel k)) false).run Yba.prog z = _ := lk
              have HX := hid hex
              clear lk hex
              go_wp2_with fail
              go_meet
              case rel => exact ⟨rfl, _, true, rfl, fun wy => eqNil67 wy, .inr ⟨rfl, fun j hj e => HX.out ⟨j, hj, e⟩, rfl⟩⟩
          case rest =>
            obtain ⟨rfl, r, bb, rfl, hbb, hc⟩ := hcut
            go_upto_if 100 with fail
            go_cut [17] from 99 to 110 (fun v wx => ∃ F2 : Where, v = .pointer (some ⟨F2.rb (nmOf len1 sel k), 0, none⟩) ∧ MidC w wx w.heap.size O S mR mS mP L HS len0 (nmOf len1 sel) ln F2 eb' k KB H)
            case first =>
              rcases hc with ⟨rfl, ⟨j, hj, ej⟩, rfl⟩ | ⟨rfl, hne, rfl⟩
              · have MC := hid (stage_old HM.out hj ej)
                clear ej
                go_wp2_with fail
                go_meet
                case rel => exact ⟨_, rfl, MC.out⟩
              · have HN := hid hne
                clear hne
                go_upto_region 23 with fail
                generalize hx3 : World.alloc _ _ = x3
                obtain ⟨y2, hy2, o4', F2, hF2, MC⟩ := stage_rep HM.out HN.out hsz x3 hx3.symm
                have HMC := hid (And.intro hF2 MC)
                have hy3 : (Instr.mapUpdate 31 (.map (some mR)) (.string (nmOf len1 sel k)) (.pointer (some ⟨wc.heap.size + 1 + 1, 0, none⟩))).run Yba.prog x3 = .ok () y2 := hy2
                clear MC hF2 hy2 hx3 o4
                go_wp2_with fail
                go_meet
                case rel => exact ⟨F2, by rw [HMC.out.1], HMC.out.2⟩
            case rest =>
              obtain ⟨F2, rfl, MC⟩ := hcut
              clear hc hbb HM o4
              obtain ⟨lm, hRb, r0, kl1, kl2, y4, hy4, hsv, hsf, hz⟩ := stage_fill MC (by omega) hlt
              obtain ⟨vv, hsv⟩ := hsv
              have HZ := hid hz
              have kl2' : (keyLoad ⟨KB, 0, none⟩).run Yba.prog (wc.alloc (.cells #[.pointer (some ⟨H, 0, none⟩), .pointer none] 73)).drew = .ok (.agg (kb (kp k) (kq k))) (wc.alloc (.cells #[.pointer (some ⟨H, 0, none⟩), .pointer none] 73)).drew := kl2
              have hy5 : (Instr.mapUpdate 68 (.map (some lm)) (.agg (kb (kp k) (kq k))) (.pointer (some ⟨wc.heap.size, 0, none⟩))).run Yba.prog (wc.alloc (.cells #[.pointer (some ⟨H, 0, none⟩), .pointer none] 73)).drew = .ok () y4 := hy4
              clear hz kl2 hy4 MC
              generalize F2.rb (nmOf len1 sel k) = Rb at r0 hRb ⊢
              go_upto_region 24 with fail
              go_cut [] from 111 to 118 (fun wx => wx = y4)
              case first =>
                go_region
                all_goals
                  go_wp2_with fail
                  go_meet
                  case rel => rfl
              case rest =>
                subst hcut
                clear hy5 kl1 kl2' r0 hRb
                go_upto_region 26 with fail
                generalize hz4 : World.setCell _ _ _ = z4
                obtain ⟨⟨a4, c4, h36⟩, F3, C4, H4⟩ := HZ.out z4 hz4.symm
                have HC4 := hid (cost_any z4 H a4 (ln k) c4 h36 (by omega))
                have HN4 := hid (And.intro C4 H4)
                clear C4 H4 h36 hz4 HZ hsv hsf
                go_wp2_with fail
                refine Calls.mono HC4.out ?_
                rintro e w4 ⟨rfl, rfl⟩
                have hcm := cum_le ln len0 hlb.out k hk
                go_wp2
                exact ⟨⟨k + 1, F3, _, by omega, by go_num, by simp only [cum]; go_num, HN4.out.1, HN4.out.2⟩, by simp [intOf]; omega⟩
    · obtain rfl : k = len0 := by omega
      clear C hd
      go_upto_if 128 with fail
      go_cut [] from 127 to 142 (fun wx => Hid (∃ (FB : Nat) (f : Value) (sb : Int), Aft w wx O S mR mS mP L HS k (nmOf len1 sel) ln F eb FB f sb))
      case first =>
        by_cases h0 : 0 < k
        · have s1 := HC.out.hS.cell 1 _ rfl
          have f1 := HC.out.hS.loose 1
          go_upto_region 29 with fail
          generalize hx : World.setCell _ _ _ = x
          obtain ⟨y, hy, o5, hlt, y6, f6, hz⟩ := aft_pos HC.out HD.out h0 x hx.symm
          simp only [sx] at hy
          have HZ := hid hz
          clear hz s1 f1 hx
          go_wp2_with fail
          go_meet
          case rel => exact ⟨_, _, _, HZ.out _ rfl⟩
        · have h0' : k = 0 := by omega
          have HA := hid (aft_zero HC.out HD.out h0')
          go_wp2_with fail
          go_meet
          case rel => exact ⟨_, _, _, HA.out⟩
      case rest =>
        obtain ⟨FB, f, sb, A⟩ := hcut.out
        have HA := hid A
        have o7 := A.hO.cell 7 _ rfl
        have o8 := A.hO.cell 8 _ rfl
        have l7 := A.hO.loose 7
        have l8 := A.hO.loose 8
        clear A hcut HC HD
        have hcn := cum_le ln k hlb.out k (Nat.le_refl _)
        obtain ⟨e, he, hele⟩ : ∃ e : Nat, (a2 : Int) % ((cum ln k : Int) + 1) = (e : Int) ∧ e ≤ cum ln k := ⟨a2 % (cum ln k + 1), by simp [Int.natCast_emod], by have := Nat.mod_lt a2 (show 0 < cum ln k + 1 by omega); omega⟩
        go_upto_region 34 with fail
        generalize hx : World.setCell _ _ _ = x
        obtain ⟨ow, hd, rw1, bel⟩ := aft_own HA.out _ _ x hx.symm
        have HB := hid (bound_any hd ow bel.size hn hlb.out (fun i _ => name3_len _) hele)
        have HR := hid (And.intro rw1 bel)
        clear HA hx ow hd rw1 bel o7 o8 l7 l8 he
        go_wp2_with fail
        refine Calls.mono HB.out ?_
        rintro _ X ⟨rfl, kk, hkk, he1, he2, hd, ow, M, kp⟩
        have rw1 := HR.out.1.keep kp (by decide)
        have bel := HR.out.2.trans kp.bel
        have HX := hid (And.intro hd (And.intro ow (And.intro rw1 bel)))
        have He2 := hid he2
        clear HB HR hd ow kp rw1 bel he2
        go_wp2_with fail
        have hck := cum_le ln k hlb.out kk hkk
        go_loop [19, 20] (fun j c => ∃ t : Nat, t ≤ kk ∧ j = .int .i64 (t : Int) ∧ c = .int .i64 (cum ln t : Int)) (fun j _ => kk - (intOf j).toNat)
        case atStart => exact ⟨0, Nat.zero_le _, rfl, rfl⟩
        case round =>
          obtain ⟨t, ht, rfl, rfl⟩ := hrel
          have hct := cum_le ln k hlb.out t (by omega)
          go_upto_region 36 with fail
          go_cut [169] from 161 to 168 (fun v wx => v = .bool (decide (t < kk)) ∧ wx = X)
          case first =>
            by_cases htk : t < kk
            · have h1 := He2.out t htk
              have h2 : t < k := by omega
              go_wp2_with fail
              go_meet
              case rel => exact ⟨by simp [htk], rfl⟩
            · obtain rfl : t = kk := by omega
              by_cases h2 : t < k
              · go_wp2_with fail
                go_meet
                case rel => exact ⟨by simp <;> omega, rfl⟩
              · go_wp2_with fail
                go_meet
                case rel => exact ⟨by simp, rfl⟩
          case rest =>
            obtain ⟨hv, rfl⟩ := hcut
            by_cases htk : t < kk
            · rw [decide_eq_true htk] at hv
              subst hv
              obtain ⟨x0, hx0, xb, xc⟩ := hL.out t (by omega)
              have xc' : wc.cell? (x0.add t) = some (.int .u8 (ln t : Int)) := (HX.out.2.2.2.cell (by rw [add_block]; exact xb)).trans xc
              have hlt' := hlb.out t (by omega)
              have h2 : t < k := by omega
              subst hx0
              clear xc
              go_wp2
              exact ⟨⟨t + 1, by omega, by go_num, by simp only [cum]; go_num⟩, by simp [intOf]; omega⟩
            · rw [decide_eq_false htk] at hv
              subst hv
              obtain rfl : t = kk := by omega
              have hd := HX.out.1
              have ow := HX.out.2.1
              have o7 := ow.o7 hkk
              have l4 : wc.cell? ⟨L, 4, none⟩ = some (.int .i64 ((k : Int) - (t : Int))) := hd.ring.root.cell 4 _ rfl
              have s2 : wc.cell? ⟨S, 2, none⟩ = some (.pointer (some ⟨L, 0, none⟩)) := ow.s2 hkk
              have HL4 := hid (len_any wc L _ l4)
              clear hd ow htk he1
              go_upto_region 41 with fail
              go_cut [201] from 189 to 200 (fun v wx => v = .bool false ∧ wx = wc)
              case first =>
                by_cases h0 : 0 < k
                · go_wp2_with fail
                  refine Calls.mono HL4.out ?_
                  rintro _ w5 ⟨rfl, rfl⟩
                  go_wp2_with fail
                  go_meet
                  case rel => exact ⟨rfl, rfl⟩
                · go_wp2_with fail
                  go_meet
                  case rel => exact ⟨rfl, rfl⟩
              case rest =>
                obtain ⟨rfl, rfl⟩ := hcut
                go_upto_if 204 with fail
                go_cut [] from 202 to 268 (fun wx => wx = wc)
                case first =>
                  by_cases hlt2 : t < k
                  · obtain ⟨oc, sh⟩ := HX.out.2.1.1 hlt2
                    have l0 := HX.out.1.ring.root.cell 0 _ rfl
                    simp only [hlt2, if_true] at l0
                    have HF := hid (front_any wc L _ _ l4 l0 (by omega))
                    have e3 : wc.cell? ⟨eb t, 3, none⟩ = some (.iface 54 (.pointer (some ⟨F.hb t, 0, none⟩))) := (HX.out.1.ring.el t (Nat.le_refl _) hlt2).cell 3 _ rfl
                    have s1 : wc.cell? ⟨S, 1, none⟩ = some (.int .i64 ((cum ln k : Int) - (cum ln t : Int))) := sh.hS.cell 1 _ rfl
                    have o5 : wc.cell? ⟨O, 5, none⟩ = some (.map (some mS)) := sh.hO.cell _ _ sh.o5
                    have o6 : wc.cell? ⟨O, 6, none⟩ = some (.slice (some ⟨FB, 0, none⟩) 1 1) := sh.hO.cell _ _ sh.o6
                    have lk := sh.hM.hit strLaw Yba.underlying32 sx_key ⟨rfl, rfl⟩
                    simp only [sx] at lk
                    have hr := HX.out.2.2.1.cell hlt2
                    have ta := assert54ok
                    have q1 := fun (wx : World) (a : Addr) => Lib.run_neq_ptr_same wx a Yba.underlying54 i65
                    have q2 := fun (wx : World) (a : Addr) => Lib.run_neq_ptr_same wx a Yba.underlying25 i29
                    clear sh l0
                    go_wp2_with fail
                    refine Calls.mono HF.out ?_
                    rintro _ w6 ⟨rfl, rfl⟩
                    go_wp2_with fail
                    go_meet
                    case rel => rfl
                  · obtain rfl : t = k := by omega
                    obtain ⟨⟨oc, hO, o4, o5, ⟨fa, fc, o6⟩, _⟩, _, hM⟩ := HX.out.2.1.2 rfl
                    have p5 := hO.cell _ _ o5
                    have p6 := hO.cell _ _ o6
                    obtain ⟨es, c, hes, hz⟩ := hM.len
                    have hln0 := len_map wc 32 9 25 3 Yba.underlying32 mS es c hes
                    rw [hz.2 (fun _ _ h => h)] at hln0
                    clear hO hes hz hM
                    go_wp2_with fail
                    go_meet
                    case rel => rfl
                case rest =>
                  subst hcut
                  clear l4 s2 HL4 o7 mk mk3
                  have o4 := HX.out.2.1.o4 hkk
                  go_wp2_with fail
                  go_loopw [24] (fun i wr => ∃ j m : Nat, j ≤ k ∧ i = .int .i64 (j : Int) ∧ wr = wc.drewN m) (fun i _ => k - (intOf i).toNat)
                  case atStart => exact ⟨0, 0, Nat.zero_le _, rfl, rfl⟩
                  case round =>
                    obtain ⟨j, m, hj, rfl, rfl⟩ := hrel
                    by_cases hlt2 : j < k
                    · have hBx := HX.out.2.2.2.size
                      have hdW := HX.out.1.drewN hBx m
                      have hBW : w.heap.size ≤ (wc.drewN m).heap.size := by rw [drewN_heap]; exact hBx
                      have c4 : (wc.drewN m).cell? ⟨O, 4, none⟩ = some (.map (some mR)) := (drewN_cell _ _ _).trans o4
                      have cr := (drewN_cell wc m ⟨HS, j, none⟩).trans (HX.out.2.2.1.cell hlt2)
                      obtain ⟨cn, kl⟩ := fin_ans hdW hBW hlt2
                      have hend : Hid (∀ n, (wc.drewN m).drewN n = wc.drewN (m + n)) := fun n => World.drewN_drewN _ _ _
                      have hsz := name3_len (if j < len1 then sel j % 3 else 0)
                      clear o4
                      by_cases htj : t ≤ j
                      · obtain ⟨R, l, A, k1, r0, k2⟩ := fin_in hdW hBW hn hsz htj hlt2
                        clear hdW hBW hBx
                        generalize wc.drewN m = Wm at c4 cr cn kl k1 r0 k2 hend ⊢
                        generalize F.hb j = H at cr cn kl
                        have k1' : ∀ m, (Instr.lookup 31 (.map (some mR)) (.string (nmOf len1 sel j)) false).run Yba.prog (Wm.drewN m) = .ok (.pointer (some ⟨R, 0, none⟩)) (Wm.drewN m) := k1
                        clear k1
                        go_wp2_with fail
                        go_quiet (fail)
                        go_wp2_with fail
                        go_quiet (fail)
                        go_wp2
                        exact ⟨⟨j + 1, _, by omega, by go_num, hend.out _⟩, by simp [intOf]; omega⟩
                      · rcases fin_out hdW hBW hn hsz (by omega) hlt2 with ⟨R, l, k1, r0, k2⟩ | k1
                        · clear hdW hBW hBx
                          generalize wc.drewN m = Wm at c4 cr cn kl k1 r0 k2 hend ⊢
                          generalize F.hb j = H at cr cn kl
                          have k1' : ∀ m, (Instr.lookup 31 (.map (some mR)) (.string (nmOf len1 sel j)) false).run Yba.prog (Wm.drewN m) = .ok (.pointer (some ⟨R, 0, none⟩)) (Wm.drewN m) := k1
                          clear k1
                          go_wp2_with fail
                          go_quiet (fail)
                          go_wp2_with fail
                          go_quiet (fail)
                          go_wp2
                          exact ⟨⟨j + 1, _, by omega, by go_num, hend.out _⟩, by simp [intOf]; omega⟩
                        · clear hdW hBW hBx
                          generalize wc.drewN m = Wm at c4 cr cn kl k1 hend ⊢
                          generalize F.hb j = H at cr cn kl
                          have k1' : ∀ m, (Instr.lookup 31 (.map (some mR)) (.string (nmOf len1 sel j)) false).run Yba.prog (Wm.drewN m) = .ok (.pointer none) (Wm.drewN m) := k1
                          clear k1
                          go_wp2_with fail
                          go_quiet (fail)
                          go_wp2_with fail
                          go_quiet (fail)
                          go_wp2
                          exact ⟨⟨j + 1, _, by omega, by go_num, hend.out _⟩, by simp [intOf]; omega⟩
                    · obtain rfl : j = k := by omega
                      go_wp2
                      go_ret
                      exact ⟨rfl, HX.out.2.2.2.trans (bel_dN _ _)⟩
end Go.Proofs.Ybulkaccc
