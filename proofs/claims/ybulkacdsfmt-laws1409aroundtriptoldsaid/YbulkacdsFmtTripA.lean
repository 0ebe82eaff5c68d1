/- LawS1409ARoundTrip: the walk, up to the encoding. -/
import Derived.Test.YbulkacdsFmtTripLaw
import Derived.Deep.CutRange
set_option linter.unusedVariables false
set_option linter.unusedSimpArgs false
namespace Go.Proofs.YbulkacdsFmt
open Go.RowKit Go.Extern.Stop Go.Stop Go.Extern

/-- A part that is handed over: the walk does not look behind the name. -/
structure Bx (p : Prop) : Prop where
  out : p

/-- The certificates as they came in. -/
structure Craw (w : World) (a : Option Addr) (b o l : Nat) (ca : Nat → Option Addr) (cb co cl cc : Nat → Nat) (cf : Nat → Nat → Int) : Prop where
  at_ : ∀ i, i < l → a = some ⟨b, o, none⟩ ∧ w.cell? ⟨b, o + i, none⟩ = some (.slice (ca i) (cl i) (cc i)) ∧ In w w.heap.size (ca i) (cb i) (co i) (cl i) (cc i) (cf i)
  lt : ∀ i, i < l → b < w.heap.size

theorem Craw.certs {w : World} {a : Option Addr} {b o l : Nat} {ca : Nat → Option Addr} {cb co cl cc : Nat → Nat} {cf : Nat → Nat → Int} (C : Craw w a b o l ca cb co cl cc cf) (hT : certLen cl l ≤ 65535) : Certs w w.heap.size a b o l ca cb co cl cc cf :=
  ⟨fun i hi => by
    obtain ⟨h1, h2, h3⟩ := C.at_ i hi
    have h4 := certLen_mono cl (i + 1) l (by omega)
    have h5 : certLen cl (i + 1) = certLen cl i + (1 + 2 + cl i) := rfl
    exact ⟨h1, h2, h3, by omega⟩, C.lt⟩

theorem In.less {w : World} {N : Nat} {a : Option Addr} {b o l c l' : Nat} {f : Nat → Int} (h : In w N a b o l c f) (hl : l' ≤ l) : In w N a b o l' c f :=
  ⟨fun i hi => h.B i (by omega), fun i hi => h.lt i (by omega), h.nil⟩

set_option maxRecDepth 100000 in
theorem tr_long1 (w : World) (a : Option Addr) (l c : Nat) (ha sa typ sha : Int) (ah : Option Addr) (lh ch : Nat) (av : Option Addr) (lv cv : Nat) (h : 1024 < (l : Int)) :
    Calls Ybaf.prog 4 #[.slice a l c, .int .u8 ha, .int .u8 sa, .int .u8 typ, .int .u8 sha, .slice ah lh ch, .slice av lv cv] w fun e w' => e = .returned (.bool true) ∧ Below w.heap.size w w' := by
  go_enter Ybaf.func4, Ybaf.ntmps4
  go_wp2
  go_ret
  exact ⟨rfl, Below.refl _ _⟩
set_option maxRecDepth 100000 in
theorem tr_long2 (w : World) (a : Option Addr) (l c : Nat) (ha sa typ sha : Int) (ah : Option Addr) (lh ch : Nat) (av : Option Addr) (lv cv : Nat) (h : (l : Int) ≤ 1024) (h2 : 70000 < (lh : Int)) :
    Calls Ybaf.prog 4 #[.slice a l c, .int .u8 ha, .int .u8 sa, .int .u8 typ, .int .u8 sha, .slice ah lh ch, .slice av lv cv] w fun e w' => e = .returned (.bool true) ∧ Below w.heap.size w w' := by
  go_enter Ybaf.func4, Ybaf.ntmps4
  go_wp2
  go_ret
  exact ⟨rfl, Below.refl _ _⟩
set_option maxRecDepth 100000 in
theorem tr_long3 (w : World) (a : Option Addr) (l c : Nat) (ha sa typ sha : Int) (ah : Option Addr) (lh ch : Nat) (av : Option Addr) (lv cv : Nat) (h : (l : Int) ≤ 1024) (h2 : (lh : Int) ≤ 70000) (h3 : 70000 < (lv : Int)) :
    Calls Ybaf.prog 4 #[.slice a l c, .int .u8 ha, .int .u8 sa, .int .u8 typ, .int .u8 sha, .slice ah lh ch, .slice av lv cv] w fun e w' => e = .returned (.bool true) ∧ Below w.heap.size w w' := by
  go_enter Ybaf.func4, Ybaf.ntmps4
  go_wp2
  go_ret
  exact ⟨rfl, Below.refl _ _⟩

theorem made2 (w : World) (cs : Value) (ha sa ty sha : Int) (h v : Value) :
    SecAt ((w.alloc (.cells #[cs, .int .u8 ha, .int .u8 sa, .int .u8 ty, .int .u8 sha, h, v] 30)).alloc (.cells #[.slice none 0 0, .nilIface] 35)) w.heap.size cs ha sa ty sha h v ∧
    Enc ((w.alloc (.cells #[cs, .int .u8 ha, .int .u8 sa, .int .u8 ty, .int .u8 sha, h, v] 30)).alloc (.cells #[.slice none 0 0, .nilIface] 35)) w.heap.size (w.heap.size + 1) (.slice none 0 0) 0 [] ∧
    Below w.heap.size w ((w.alloc (.cells #[cs, .int .u8 ha, .int .u8 sa, .int .u8 ty, .int .u8 sha, h, v] 30)).alloc (.cells #[.slice none 0 0, .nilIface] 35)) := by
  have b : Below w.heap.size w ((w.alloc (.cells #[cs, .int .u8 ha, .int .u8 sa, .int .u8 ty, .int .u8 sha, h, v] 30)).alloc (.cells #[.slice none 0 0, .nilIface] 35)) := ((Below.refl _ w).alloc (Nat.le_refl _) _).alloc (by simp) _
  refine ⟨?_, ⟨?_, World.ownsRow_nil _ _ _ _, by omega, b.size⟩, b⟩
  · show ((w.alloc (.cells #[cs, .int .u8 ha, .int .u8 sa, .int .u8 ty, .int .u8 sha, h, v] 30)).alloc (.cells #[.slice none 0 0, .nilIface] 35)).heap[w.heap.size]? = _
    rw [Below.heap_alloc _ _ _ (by simp)]
    exact heap_alloc_new w _
  · have := heap_alloc_new (w.alloc (.cells #[cs, .int .u8 ha, .int .u8 sa, .int .u8 ty, .int .u8 sha, h, v] 30)) (.cells #[.slice none 0 0, .nilIface] 35)
    simpa using this

/-- What lies there behind the encoding. -/
structure EncDone (w w3 : World) (l : Nat) (cl : Nat → Nat) (cf : Nat → Nat → Int) (ha sa ty sha : Int) (lh : Nat) (fh : Nat → Int) (lv : Nat) (fv : Nat → Int) (v3 : Value) : Prop where
  E : Enc w3 w.heap.size (w.heap.size + 1) v3 (2 + certLen cl l + sigLen ty lh lv) (secBytes l cl cf ha sa ty sha lh fh lv fv)
  B : Below w.heap.size w w3
  T : certLen cl l ≤ 65535
  h : lh ≤ 255
  v : lv ≤ 65535

set_option maxRecDepth 100000 in
set_option maxHeartbeats 4000000 in
def trpA (w : World) (a : Option Addr) (b o l c : Nat) (ca : Nat → Option Addr) (cb co cl cc : Nat → Nat) (cf : Nat → Nat → Int) (ha sa typ sha ty : Int) (ah : Option Addr) (bh oh lh ch : Nat) (fh : Nat → Int) (av : Option Addr) (bv ov lv cv : Nat) (fv : Nat → Int)
    (hl : (l : Int) ≤ 1024) (hlh : (lh : Int) ≤ 70000) (hlv : (lv : Int) ≤ 70000) (hlc : (lh : Int) ≤ (ch : Int)) (hvc : (lv : Int) ≤ (cv : Int)) (hch : (ch : Int) ≤ 9223372036854775807) (hcv : (cv : Int) ≤ 9223372036854775807) (ht0 : 0 ≤ typ) (ht1 : typ ≤ 255) (hty : typ % 3 + 1 = ty)
    (C : Hid (Craw w a b o l ca cb co cl cc cf)) (I : Hid (In w w.heap.size ah bh oh lh ch fh)) (J : Hid (In w w.heap.size av bv ov lv cv fv)) :
    { P : Prop // Bx P → Calls Ybaf.prog 4 #[.slice a l c, .int .u8 ha, .int .u8 sa, .int .u8 typ, .int .u8 sha, .slice ah lh ch, .slice av lv cv] w fun e w' => e = .returned (.bool true) ∧ Below w.heap.size w w' } := ⟨_, fun hA => by
  have dmy : Hid True := trivial
  have e1 := Int.tmod_eq_emod_of_nonneg (b := 3) ht0
  go_enter Ybaf.func4, Ybaf.ntmps4
  go_wp2_with fail
  go_loop [15, 16] (fun x i => ∃ k : Nat, k ≤ l ∧ i = .int .i64 k ∧ x = .int .i64 (certLen cl k : Nat) ∧ certLen cl k ≤ 70003 * k) (fun _ i => l - (intOf i).toNat)
  case atStart => exact ⟨0, Nat.zero_le _, rfl, rfl, Nat.le_refl _⟩
  case round =>
    obtain ⟨k, hk, rfl, rfl, hkb⟩ := hrel
    by_cases hlt : k < l
    · clear hA
      obtain ⟨rfl, hc, -⟩ := C.out.at_ k hlt
      by_cases hbig : 70000 < cl k
      · go_wp2
        go_ret
        exact ⟨rfl, Below.refl _ _⟩
      · go_wp2
        exact ⟨⟨k + 1, by omega, by go_num, by first | rfl | (rw [certLen]; congr 1; omega) | (rw [certLen]; congr 1), by rw [certLen]; omega⟩, by simp [intOf]; omega⟩
    · obtain rfl : l = k := by omega
      by_cases hT : (65536 : Int) ≤ (certLen cl l : Int)
      · clear hA
        go_wp2
        go_ret
        exact ⟨rfl, Below.refl _ _⟩
      · go_upto_if 64 with fail
        go_cut [17] from 26 to 189 (fun s wx => s = .slice ah (min lh 255) ch ∧ w = wx)
        case first =>
          clear hA
          by_cases hh : 255 < lh
          · obtain ⟨rfl, -⟩ := I.out.B 0 (by omega)
            have hm : Hid (min lh 255 = 255) := Nat.min_eq_right (by omega)
            go_wp2
            go_meet
            case rel => exact ⟨by rw [hm.out], rfl⟩
          · have hm : Hid (min lh 255 = lh) := Nat.min_eq_left (by omega)
            go_wp2
            go_meet
            case rel => exact ⟨by rw [hm.out], rfl⟩
        case rest =>
          obtain ⟨rfl, rfl⟩ := hcut
          go_upto_if 70 with fail
          go_cut [18] from 26 to 189 (fun s wx => s = .slice av (min lv 65535) cv ∧ w = wx)
          case first =>
            clear hA
            by_cases hh : 65535 < (lv : Int)
            · obtain ⟨rfl, -⟩ := J.out.B 0 (by omega)
              have hm : Hid (min lv 65535 = 65535) := Nat.min_eq_right (by omega)
              go_wp2
              go_meet
              case rel => exact ⟨by rw [hm.out], rfl⟩
            · have hm : Hid (min lv 65535 = lv) := Nat.min_eq_left (by omega)
              go_wp2
              go_meet
              case rel => exact ⟨by rw [hm.out], rfl⟩
          case rest =>
            obtain ⟨rfl, rfl⟩ := hcut
            have hh1 : min lh 255 ≤ 255 := Nat.min_le_right _ _
            have hh2 : min lh 255 ≤ lh := Nat.min_le_left _ _
            have hv1 : min lv 65535 ≤ 65535 := Nat.min_le_right _ _
            have hv2 : min lv 65535 ≤ lv := Nat.min_le_left _ _
            generalize min lh 255 = lh' at hh1 hh2 ⊢
            generalize min lv 65535 = lv' at hv1 hv2 ⊢
            have Hh : Hid _ := And.intro hh1 (And.intro hh2 (And.intro hv1 hv2))
            clear hh1 hh2 hv1 hv2
            go_upto_region 21 with fail
            obtain ⟨W2, hW2⟩ : ∃ W2, W2 = (w.alloc (.cells #[.slice a l c, .int .u8 ha, .int .u8 sa, .int .u8 ty, .int .u8 sha, .slice ah lh' ch, .slice av lv' cv] 30)).alloc (.cells #[.slice none 0 0, .nilIface] 35) := ⟨_, rfl⟩
            rw [← hW2]
            have M2 := made2 w (.slice a l c) ha sa ty sha (.slice ah lh' ch) (.slice av lv' cv)
            rw [← hW2] at M2
            obtain ⟨S2, E2, B2⟩ := M2
            obtain ⟨hh1, hh2, hv1, hv2⟩ := Hh.out
            have hT' : certLen cl l ≤ 65535 := by omega
            have HC : Hid _ := sec_any W2 w.heap.size (w.heap.size + 1) w.heap.size _ ha sa ty sha ah bh oh lh' ch fh av bv ov lv' cv fv a b o l c ca cb co cl cc cf (by omega) hT' hh1 hv1 E2 S2 ((C.out.certs hT').later B2) ((I.out.less hh2).later B2) ((J.out.less hv2).later B2)
            have HB : Hid _ := B2
            clear hW2 S2 E2 B2 hh1 hh2 hv1 hv2
            go_wp2_with fail
            refine Calls.mono HC.out ?_
            rintro e w3 ⟨rfl, v3, E3, S3⟩
            have HD : Hid (EncDone w w3 l cl cf ha sa ty sha lh' fh lv' fv v3) := ⟨E3, HB.out.trans S3.B, hT', Hh.out.1, Hh.out.2.2.1⟩
            have HL : Hid (lh' ≤ lh ∧ lv' ≤ lv) := ⟨Hh.out.2.1, Hh.out.2.2.2⟩
            clear HC HB E3 S3 Hh hT hT' hkb
            revert u14 u26 u27 u28 u29 u30 u31 u32 u33 u34 u35 u36 u37 u38 u39 u40 u41 u42 u43 u44 u45 u46 u47 u48 u49 u50 u51 u52 u53 u54 u55 u56 u57 u58 u59 u60 u61 u62 u63 u64 u65 u66 u67 u68 u69 u70 u71 u72 u73 u74 u75 u76 u77 u78 u79 u80 u81 u82 u83 u84 u85 u86 u87 u88 u89 u90 u91 u92 u93 u94 u95 u96 u97 u98 u99 u100 u101 u102 u103 u104 u105 u106 u107 u108 u109 u110 u111 u112 u113 u114 u115 u116 u117 u118 u119 u120 u121 u122 u123 u124 u125 u126 u127 u128 u129 u130 u131 u132 u133 u134 u135 u136 u137 u138 u139 u140 u141 u142 u143 u144 u145 u146 u147 u148 u149 u150 u151 u152 u153 u154 u155 u156 u157 u158 u159 u160 u161 u162 u163 u164 u165 u166 u167 u168 u169 u170 u171 u172 u173 u174 u175 u176 u177 u178 u179 u180 u181 u182 u183 u184 u185 u186 u187 u188 u189
            repeat (first | clear u26 u27 u28 u29 u30 u31 u32 u33 u34 u35 u36 u37 u38 u39 u40 u41 u42 u43 u44 u45 u46 u47 u48 u49 u50 u51 u52 u53 u54 u55 u56 u57 u58 u59 u60 u61 u62 u63 u64 u65 u66 u67 u68 u69 u70 u71 u72 u73 u74 u75 u76 u77 u78 u79 u80 u81 u82 u83 u84 u85 u86 u87 u88 u89 u90 u91 u92 u93 u94 u95 u96 u97 u98 u99 u100 u101 u102 u103 u104 u105 u106 u107 u108 u109 u110 u111 u112 u113 u114 u115 u116 u117 u118 u119 u120 u121 u122 u123 u124 u125 u126 u127 u128 u129 u130 u131 u132 u133 u134 u135 u136 u137 u138 u139 u140 u141 u142 u143 u144 u145 u146 u147 u148 u149 u150 u151 u152 u153 u154 u155 u156 u157 u158 u159 u160 u161 u162 u163 u164 u165 u166 u167 u168 u169 u170 u171 u172 u173 u174 u175 u176 u177 u178 u179 u180 u181 u182 u183 u184 u185 u186 u187 u188 u189 | revert u26 u27 u28 u29 u30 u31 u32 u33 u34 u35 u36 u37 u38 u39 u40 u41 u42 u43 u44 u45 u46 u47 u48 u49 u50 u51 u52 u53 u54 u55 u56 u57 u58 u59 u60 u61 u62 u63 u64 u65 u66 u67 u68 u69 u70 u71 u72 u73 u74 u75 u76 u77 u78 u79 u80 u81 u82 u83 u84 u85 u86 u87 u88 u89 u90 u91 u92 u93 u94 u95 u96 u97 u98 u99 u100 u101 u102 u103 u104 u105 u106 u107 u108 u109 u110 u111 u112 u113 u114 u115 u116 u117 u118 u119 u120 u121 u122 u123 u124 u125 u126 u127 u128 u129 u130 u131 u132 u133 u134 u135 u136 u137 u138 u139 u140 u141 u142 u143 u144 u145 u146 u147 u148 u149 u150 u151 u152 u153 u154 u155 u156 u157 u158 u159 u160 u161 u162 u163 u164 u165 u166 u167 u168 u169 u170 u171 u172 u173 u174 u175 u176 u177 u178 u179 u180 u181 u182 u183 u184 u185 u186 u187 u188 u189)
            repeat (first | clear u39 u40 u41 u42 u43 u44 u45 u46 u47 u48 u49 u50 u51 u52 u53 u54 u55 u56 u57 u58 | revert u39 u40 u41 u42 u43 u44 u45 u46 u47 u48 u49 u50 u51 u52 u53 u54 u55 u56 u57 u58)
            try clear W2
            repeat revert ‹Act → World → Prop›
            repeat (first | clear ‹Exit → Act → World → Prop› | revert ‹Exit → Act → World → Prop›)
            revert w3 v3 lh' lv'
            revert dmy
            exact hA.out⟩
end Go.Proofs.YbulkacdsFmt
