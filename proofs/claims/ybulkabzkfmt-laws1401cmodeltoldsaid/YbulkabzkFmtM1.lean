/- LawS1401CModel: the walk, in parts. -/
import Derived.Test.YbulkabzkFmtAgrees
import Derived.Test.YbulkabzkFmtModelPlain
import Derived.Deep.CutRange
import Derived.Deep.Cut
import Derived.Deep.CutBlock
import Derived.BigQuiet
import Derived.Test.YbulkabzkFmtBuildA
set_option linter.unusedVariables false
set_option linter.unusedSimpArgs false
namespace Go.Proofs.YbulkabzkFmt
open Go.RowKit Go.Extern.Stop Go.Stop Go.Extern

set_option maxRecDepth 100000 in
set_option maxHeartbeats 4000000 in
def mdl1 (sb : BuildSaid) (F : Interp) (w : World) (kind actor opened cap raises rsize roundBet lraise : Int) (useOp ff : Bool)
    (b1 o1 b2 o2 b3 o3 b4 o4 b5 o5 : Nat) (a1 a2 a3 a4 a5 : Option Addr) (l1 c1 l2 c2 l3 c3 l4 c4 l5 c5 : Nat) (f1 f2 f3 f5 : Nat → Int) (f4 : Nat → Bool)
    (I : InAt w kind actor opened cap raises rsize roundBet lraise b1 o1 b2 o2 b3 o3 b4 o4 b5 o5 a1 a2 a3 a4 a5 l1 l2 l3 l4 l5 f1 f2 f3 f5 f4) (hF : F.answers w.tape) (x1 : Addr) (s1 : ByteArray) (x2 : Addr) (V : VarsAt w x1 s1 x2) :
    { P : Prop × Prop // Box (P.1) → Box (P.2) → Calls Ybaf.prog 5 #[.agg #[.int .u8 kind, .slice a1 l1 c1, .slice a2 l2 c2, .slice a3 l3 c3, .slice a4 l4 c4, .int .u8 actor, .bool useOp, .slice a5 l5 c5, .int .u8 opened, .int .i8 cap, .int .u8 raises, .int .u8 rsize, .int .u16 roundBet, .int .u16 lraise, .bool ff]] w
      fun e w' => e = .returned (.bool true) ∧ Below w.heap.size w w' } := ⟨(_, _), fun hA hB => by
  have dmy : Hid True := trivial
  go_enter Ybaf.func5, Ybaf.ntmps5
  go_wp2_with fail
  refine (built sb I (belAl _ (Below.refl _ _)) c1 c2 c3 c4 c5 useOp ff).mono ?_
  rintro e w1 ⟨L, S, rfl, O, H, hb1⟩
  have hbw1 := belT (belAl _ (Below.refl w.heap.size w)) hb1
  have hh0 := H.h0
  have hh3 := H.h3
  have hh12 := H.h12
  have hact := O.act
  have h8 := O.n8
  go_wp2_with fail
  refine (stackOf_any w1 L S O H S.actor O.act).mono ?_
  rintro e w2 ⟨rfl, hq⟩
  obtain ⟨H2, hb2⟩ := H.after hq
  have hbw2 := belT hbw1 hb2
  clear hq hh0 hh3 hh12 H hb1 hb2 hbw1
  have hld := O.large
  go_upto_block 0 with fail
  go_cut [8, 9] from 27 to 321 (fun x _ wx => x = .int .i64 S.largest ∧ wx = w2)
  case first =>
    skip
    repeat revert ‹Act → World → Prop›
    repeat revert ‹Exit → Act → World → Prop›
    revert w2 L S
    revert dmy
    exact hA.out
  case rest =>
    revert u8 u9 u27 u28 u29 u30 u31 u32 u33 u34 u35 u36 u37 u38 u39 u40 u41 u42 u43 u44 u45 u46 u47 u48 u49 u50 u51 u52 u53 u54 u55 u56 u57 u58 u59 u60 u61 u62 u63 u64 u65 u66 u67 u68 u69 u70 u71 u72 u73 u74 u75 u76 u77 u78 u79 u80 u81 u82 u83 u84 u85 u86 u87 u88 u89 u90 u91 u92 u93 u94 u95 u96 u97 u98 u99 u100 u101 u102 u103 u104 u105 u106 u107 u108 u109 u110 u111 u112 u113 u114 u115 u116 u117 u118 u119 u120 u121 u122 u123 u124 u125 u126 u127 u128 u129 u130 u131 u132 u133 u134 u135 u136 u137 u138 u139 u140 u141 u142 u143 u144 u145 u146 u147 u148 u149 u150 u151 u152 u153 u154 u155 u156 u157 u158 u159 u160 u161 u162 u163 u164 u165 u166 u167 u168 u169 u170 u171 u172 u173 u174 u175 u176 u177 u178 u179 u180 u181 u182 u183 u184 u185 u186 u187 u188 u189 u190 u191 u192 u193 u194 u195 u196 u197 u198 u199 u200 u201 u202 u203 u204 u205 u206 u207 u208 u209 u210 u211 u212 u213 u214 u215 u216 u217 u218 u219 u220 u221 u222 u223 u224 u225 u226 u227 u228 u229 u230 u231 u232 u233 u234 u235 u236 u237 u238 u239 u240 u241 u242 u243 u244 u245 u246 u247 u248 u249 u250 u251 u252 u253 u254 u255 u256 u257 u258 u259 u260 u261 u262 u263 u264 u265 u266 u267 u268 u269 u270 u271 u272 u273 u274 u275 u276 u277 u278 u279 u280 u281 u282 u283 u284 u285 u286 u287 u288 u289 u290 u291 u292 u293 u294 u295 u296 u297 u298 u299 u300 u301 u302 u303 u304 u305 u306 u307 u308 u309 u310 u311 u312 u313 u314 u315 u316 u317 u318 u319 u320 u321
    repeat revert ‹Act → World → Prop›
    repeat revert ‹Exit → Act → World → Prop›
    revert w2 wc L S
    revert dmy
    exact hB.out⟩

end Go.Proofs.YbulkabzkFmt
