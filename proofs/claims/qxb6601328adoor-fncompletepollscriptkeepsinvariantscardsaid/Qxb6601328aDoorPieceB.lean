import Derived.Test.Qxb6601328aDoorFrame
namespace Go.Proofs.Qxb6601328aDoor
open Go.RowKit Go.Own

set_option maxHeartbeats 8000000 in
set_option maxRecDepth 100000 in
theorem pieceB (proto alpha beta rounds v0 v1 c0 c1 s f col pr pr1 : Int) (d : Bool) (d0 : Bool) (i k n sc pb sb : Nat) (e0 e1 e2 e4 : Int) (ep ecol : Int) (sa : Option Addr) (w8 wr w7 : World) (Q : Exit → Act → World → Prop) (Z : Code) (a : Act) (s23 s24 s25 : Value)
    (hst : StAt wr sb e0 e1 e2 ep e4 ecol d0) (hb : Below w8.heap.size w8 wr) (hsb : w8.heap.size ≤ sb) (hA : After wr w7 v0 v1 c0 c1 s ((i : Int) + 1) f col d pr1)
    (hF : Fr a (.int .u8 proto) (.int .i64 alpha) (.int .i64 beta) (.int .i64 rounds) (.slice sa n sc) (.pointer (some ⟨pb, 0, Option.none⟩)) (.pointer (some ⟨sb, 0, Option.none⟩)) (.int .u8 pr) (.int .i64 k) (.int .i64 i) (.pointer (some ⟨wr.heap.size, 0, Option.none⟩)) (.pointer (some ⟨wr.heap.size + 1 + 1 + 1, 0, Option.none⟩)) (.pointer (some ⟨wr.heap.size + 1 + 1 + 1 + 1, 0, Option.none⟩)) (s23) (s24) (s25))
    (hZ : ∀ a' wc, Fr a' (.int .u8 proto) (.int .i64 alpha) (.int .i64 beta) (.int .i64 rounds) (.slice sa n sc) (.pointer (some ⟨pb, 0, Option.none⟩)) (.pointer (some ⟨sb, 0, Option.none⟩)) (.int .u8 pr) (.int .i64 k) (.int .i64 i) (.pointer (some ⟨wr.heap.size, 0, Option.none⟩)) (.pointer (some ⟨wr.heap.size + 1 + 1 + 1, 0, Option.none⟩)) (.pointer (some ⟨wr.heap.size + 1 + 1 + 1 + 1, 0, Option.none⟩)) (s23) (s24) (s25) → Below w8.heap.size w8 wc → StAt wc sb c0 c1 s ((i : Int) + 1) f col d → wc.cell? ⟨wr.heap.size + 1 + 1 + 1 + 1, 0, Option.none⟩ = some (.int .u8 pr1) → wc.cell? ⟨wr.heap.size, 0, Option.none⟩ = some (.int .i64 v0) → wc.cell? ⟨wr.heap.size, 1, Option.none⟩ = some (.int .i64 v1) → Code.wp Tryd.prog Z Q a' wc) :
    Code.wp Tryd.prog (.seq (stm Tryd.f3.body 5) Z) Q a w7 := by
  obtain ⟨hlow, hnode, hprf, hv0, hv1⟩ := hA
  have hls := World.rowIs.lt hst
  have q0 := hnode 0 _ rfl
  have q1 := hnode 1 _ rfl
  have q2 := hnode 2 _ rfl
  have q3 := hnode 3 _ rfl
  have q4 := hnode 4 _ rfl
  have q5 := hnode 5 _ rfl
  have q6 := hnode 6 _ rfl
  have q7 := hnode 7 _ rfl
  have q8 := hnode 8 _ rfl
  have q9 := hnode 9 _ rfl
  have q10 := hnode 10 _ rfl
  have q11 := hnode 11 _ rfl
  have hf9 := fields9 c0 c1 s ((i : Int) + 1) f col d _ _ q0 q1 q2 q3 q4 q5 q6 q7 q8 q9 q10 q11
  have HZ := hide hZ
  clear hnode q0 q1 q2 q3 q4 q5 q6 q7 q8 q9 q10 q11 hZ
  refine fr_open (fun a => Code.wp Tryd.prog (.seq (stm Tryd.f3.body 5) Z) Q a w7) a hF ?_
  intro u4 u6 u7 u8 u9 u10 u11 u12 u13 u14 u26 u27 u28 u29 u30 u31 u32 u33 u34 u35 u36 u37 u38 u39 u40 u41 u42 u43 u44 u45 u46 u47 u48 u49 u50 u51 u52 u53 u54 u55 u56 u57 u58 u59 u60 u61 u62 u63 u64 u65 u66 u67 u68 u69 u70 u71 u72 u73 u74 u75 u76 u77 u78 u79 u80 u81 u82 u83 u84 u85 u86 u87 u88 u89 u90 u91 u92 u93 u94 u95 u96 u97 u98 u99 u100 u101 u102 u103 u104 u105 u106 u107 u108 u109 u110 u111 u112 u113 u114 u115 u116 u117 u118 u119 u120 u121 u122 u123 u124 u125 u126 u127 u128 u129 u130 u131 u132 u133 u134 u135 u136 u137 u138 u139 u140 u141 u142 u143 u144 u145 u146 u147 u148 u149 u150 u151 u152 u153 u154 u155 u156 u157 u158 u159 u160 u161 u162 u163 u164 u165 u166 u167 u168 u169 u170 u171 u172 u173 u174 u175 u176 u177 u178 u179 u180 u181 u182 u183 u184 u185 u186 u187 u188 u189 u190 u191 u192 u193 u194 u195 u196 u197 u198 u199 u200 u201 u202 u203 u204 u205 u206 u207 u208 u209 u210 u211 u212 u213 u214 u215 u216 u217 u218 u219 u220 u221 u222 u223 u224 u225 u226 u227 u228 u229 u230 u231 u232 u233 u234 u235 u236 u237 u238 u239 u240 u241 u242 u243 u244 u245 u246 u247 u248 u249 u250 u251 u252 u253 u254 u255 u256 u257 u258 u259 u260 u261 u262 u263 u264 u265 u266 u267 u268 u269 u270 u271 u272 u273 u274 u275 u276 u277 u278 u279 u280 u281 u282 u283 u284 u285 u286 u287 u288 u289 u290 u291 u292 u293 u294 u295 u296 u297 u298 u299 u300 u301 u302 u303 u304 u305 u306 u307 u308 u309 u310 u311 u312 u313 u314 u315 u316 u317 u318 u319 u320 u321 u322 u323 u324 u325
  dsimp only
  conv => arg 2; arg 1; whnf
  go_wp2_with fail
  refine hf9.mono ?_
  rintro e w9 ⟨rfl, hb9⟩
  clear hf9
  go_wp2_with fail
  refine (of8 _ _ _ _ _ _ _ _).mono ?_
  rintro e w10 ⟨rfl, hb10⟩
  have hb7 := below_step hlow (below_step hb9 hb10)
  have hst10 := hst.below hb7
  obtain ⟨arr, harr, hsz, -⟩ := hst10
  clear hst
  rename_i KK hKK
  refine hKK _ _ ?_
  refine wpList_store_row rfl 33 _ _ rfl sb _ rfl rfl 33 arr harr Tryd.info33 hsz (by simp [Value.oneCell']) ?_
  go_wp2_with fail
  have hne1 : wr.heap.size + 1 + 1 + 1 + 1 ≠ sb := by omega
  have hne2 : wr.heap.size ≠ sb := by omega
  have hbw : Below w7.heap.size w7 w10 := below_step hb9 hb10
  obtain ⟨g1, g2, g3, g4, g5⟩ := storedRow (hb.trans (hb7.mono hb.size)) hsb harr (cell_below hbw hprf) (cell_below hbw hv0) (cell_below hbw hv1) hne1 hne2 c0 c1 s ((i : Int) + 1) f col d _ rfl
  exact unhide HZ _ _ ⟨rfl, rfl, rfl, rfl, rfl, rfl, rfl, rfl, rfl, rfl, rfl, rfl, rfl, rfl, rfl, rfl, rfl, rfl⟩ g1 g2 g3 g4 g5

end Go.Proofs.Qxb6601328aDoor
