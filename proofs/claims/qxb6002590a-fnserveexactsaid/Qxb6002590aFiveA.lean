import Derived.Test.Qxb6002590aAgree
namespace Go.Proofs.Qxb6002590a
open Go.RowKit Go.Own

structure Fr5 (a : Act) (s0 s1 s2 s3 s4 s5 s6 s14 s15 s16 s19 s20 s22 s23 s24 s25 s26 s30 s35 s36 s37 s38 : Value) : Prop where
  size : a.tmps.size = 397
  defers : a.defers = []
  e0 : a.tmps.getD 0 undef = s0
  e1 : a.tmps.getD 1 undef = s1
  e2 : a.tmps.getD 2 undef = s2
  e3 : a.tmps.getD 3 undef = s3
  e4 : a.tmps.getD 4 undef = s4
  e5 : a.tmps.getD 5 undef = s5
  e6 : a.tmps.getD 6 undef = s6
  e14 : a.tmps.getD 14 undef = s14
  e15 : a.tmps.getD 15 undef = s15
  e16 : a.tmps.getD 16 undef = s16
  e19 : a.tmps.getD 19 undef = s19
  e20 : a.tmps.getD 20 undef = s20
  e22 : a.tmps.getD 22 undef = s22
  e23 : a.tmps.getD 23 undef = s23
  e24 : a.tmps.getD 24 undef = s24
  e25 : a.tmps.getD 25 undef = s25
  e26 : a.tmps.getD 26 undef = s26
  e30 : a.tmps.getD 30 undef = s30
  e35 : a.tmps.getD 35 undef = s35
  e36 : a.tmps.getD 36 undef = s36
  e37 : a.tmps.getD 37 undef = s37
  e38 : a.tmps.getD 38 undef = s38

set_option maxRecDepth 100000 in
theorem range_all5 (f : Nat → Value) : (List.range 397).map f = [f 0, f 1, f 2, f 3, f 4, f 5, f 6, f 7, f 8, f 9, f 10, f 11, f 12, f 13, f 14, f 15, f 16, f 17, f 18, f 19, f 20, f 21, f 22, f 23, f 24, f 25, f 26, f 27, f 28, f 29, f 30, f 31, f 32, f 33, f 34, f 35, f 36, f 37, f 38, f 39, f 40, f 41, f 42, f 43, f 44, f 45, f 46, f 47, f 48, f 49, f 50, f 51, f 52, f 53, f 54, f 55, f 56, f 57, f 58, f 59, f 60, f 61, f 62, f 63, f 64, f 65, f 66, f 67, f 68, f 69, f 70, f 71, f 72, f 73, f 74, f 75, f 76, f 77, f 78, f 79, f 80, f 81, f 82, f 83, f 84, f 85, f 86, f 87, f 88, f 89, f 90, f 91, f 92, f 93, f 94, f 95, f 96, f 97, f 98, f 99, f 100, f 101, f 102, f 103, f 104, f 105, f 106, f 107, f 108, f 109, f 110, f 111, f 112, f 113, f 114, f 115, f 116, f 117, f 118, f 119, f 120, f 121, f 122, f 123, f 124, f 125, f 126, f 127, f 128, f 129, f 130, f 131, f 132, f 133, f 134, f 135, f 136, f 137, f 138, f 139, f 140, f 141, f 142, f 143, f 144, f 145, f 146, f 147, f 148, f 149, f 150, f 151, f 152, f 153, f 154, f 155, f 156, f 157, f 158, f 159, f 160, f 161, f 162, f 163, f 164, f 165, f 166, f 167, f 168, f 169, f 170, f 171, f 172, f 173, f 174, f 175, f 176, f 177, f 178, f 179, f 180, f 181, f 182, f 183, f 184, f 185, f 186, f 187, f 188, f 189, f 190, f 191, f 192, f 193, f 194, f 195, f 196, f 197, f 198, f 199, f 200, f 201, f 202, f 203, f 204, f 205, f 206, f 207, f 208, f 209, f 210, f 211, f 212, f 213, f 214, f 215, f 216, f 217, f 218, f 219, f 220, f 221, f 222, f 223, f 224, f 225, f 226, f 227, f 228, f 229, f 230, f 231, f 232, f 233, f 234, f 235, f 236, f 237, f 238, f 239, f 240, f 241, f 242, f 243, f 244, f 245, f 246, f 247, f 248, f 249, f 250, f 251, f 252, f 253, f 254, f 255, f 256, f 257, f 258, f 259, f 260, f 261, f 262, f 263, f 264, f 265, f 266, f 267, f 268, f 269, f 270, f 271, f 272, f 273, f 274, f 275, f 276, f 277, f 278, f 279, f 280, f 281, f 282, f 283, f 284, f 285, f 286, f 287, f 288, f 289, f 290, f 291, f 292, f 293, f 294, f 295, f 296, f 297, f 298, f 299, f 300, f 301, f 302, f 303, f 304, f 305, f 306, f 307, f 308, f 309, f 310, f 311, f 312, f 313, f 314, f 315, f 316, f 317, f 318, f 319, f 320, f 321, f 322, f 323, f 324, f 325, f 326, f 327, f 328, f 329, f 330, f 331, f 332, f 333, f 334, f 335, f 336, f 337, f 338, f 339, f 340, f 341, f 342, f 343, f 344, f 345, f 346, f 347, f 348, f 349, f 350, f 351, f 352, f 353, f 354, f 355, f 356, f 357, f 358, f 359, f 360, f 361, f 362, f 363, f 364, f 365, f 366, f 367, f 368, f 369, f 370, f 371, f 372, f 373, f 374, f 375, f 376, f 377, f 378, f 379, f 380, f 381, f 382, f 383, f 384, f 385, f 386, f 387, f 388, f 389, f 390, f 391, f 392, f 393, f 394, f 395, f 396] := rfl

set_option maxRecDepth 100000 in
set_option maxHeartbeats 4000000 in
theorem fr_open5 {s0 s1 s2 s3 s4 s5 s6 s14 s15 s16 s19 s20 s22 s23 s24 s25 s26 s30 s35 s36 s37 s38 : Value} (P : Act → Prop) (a : Act) (h : Fr5 a s0 s1 s2 s3 s4 s5 s6 s14 s15 s16 s19 s20 s22 s23 s24 s25 s26 s30 s35 s36 s37 s38) (H : ∀ u7 u8 u9 u10 u11 u12 u13 u17 u18 u21 u27 u28 u29 u31 u32 u33 u34 u39 u40 u41 u42 u43 u44 u45 u46 u47 u48 u49 u50 u51 u52 u53 u54 u55 u56 u57 u58 u59 u60 u61 u62 u63 u64 u65 u66 u67 u68 u69 u70 u71 u72 u73 u74 u75 u76 u77 u78 u79 u80 u81 u82 u83 u84 u85 u86 u87 u88 u89 u90 u91 u92 u93 u94 u95 u96 u97 u98 u99 u100 u101 u102 u103 u104 u105 u106 u107 u108 u109 u110 u111 u112 u113 u114 u115 u116 u117 u118 u119 u120 u121 u122 u123 u124 u125 u126 u127 u128 u129 u130 u131 u132 u133 u134 u135 u136 u137 u138 u139 u140 u141 u142 u143 u144 u145 u146 u147 u148 u149 u150 u151 u152 u153 u154 u155 u156 u157 u158 u159 u160 u161 u162 u163 u164 u165 u166 u167 u168 u169 u170 u171 u172 u173 u174 u175 u176 u177 u178 u179 u180 u181 u182 u183 u184 u185 u186 u187 u188 u189 u190 u191 u192 u193 u194 u195 u196 u197 u198 u199 u200 u201 u202 u203 u204 u205 u206 u207 u208 u209 u210 u211 u212 u213 u214 u215 u216 u217 u218 u219 u220 u221 u222 u223 u224 u225 u226 u227 u228 u229 u230 u231 u232 u233 u234 u235 u236 u237 u238 u239 u240 u241 u242 u243 u244 u245 u246 u247 u248 u249 u250 u251 u252 u253 u254 u255 u256 u257 u258 u259 u260 u261 u262 u263 u264 u265 u266 u267 u268 u269 u270 u271 u272 u273 u274 u275 u276 u277 u278 u279 u280 u281 u282 u283 u284 u285 u286 u287 u288 u289 u290 u291 u292 u293 u294 u295 u296 u297 u298 u299 u300 u301 u302 u303 u304 u305 u306 u307 u308 u309 u310 u311 u312 u313 u314 u315 u316 u317 u318 u319 u320 u321 u322 u323 u324 u325 u326 u327 u328 u329 u330 u331 u332 u333 u334 u335 u336 u337 u338 u339 u340 u341 u342 u343 u344 u345 u346 u347 u348 u349 u350 u351 u352 u353 u354 u355 u356 u357 u358 u359 u360 u361 u362 u363 u364 u365 u366 u367 u368 u369 u370 u371 u372 u373 u374 u375 u376 u377 u378 u379 u380 u381 u382 u383 u384 u385 u386 u387 u388 u389 u390 u391 u392 u393 u394 u395 u396 : Value, P ⟨#[s0, s1, s2, s3, s4, s5, s6, u7, u8, u9, u10, u11, u12, u13, s14, s15, s16, u17, u18, s19, s20, u21, s22, s23, s24, s25, s26, u27, u28, u29, s30, u31, u32, u33, u34, s35, s36, s37, s38, u39, u40, u41, u42, u43, u44, u45, u46, u47, u48, u49, u50, u51, u52, u53, u54, u55, u56, u57, u58, u59, u60, u61, u62, u63, u64, u65, u66, u67, u68, u69, u70, u71, u72, u73, u74, u75, u76, u77, u78, u79, u80, u81, u82, u83, u84, u85, u86, u87, u88, u89, u90, u91, u92, u93, u94, u95, u96, u97, u98, u99, u100, u101, u102, u103, u104, u105, u106, u107, u108, u109, u110, u111, u112, u113, u114, u115, u116, u117, u118, u119, u120, u121, u122, u123, u124, u125, u126, u127, u128, u129, u130, u131, u132, u133, u134, u135, u136, u137, u138, u139, u140, u141, u142, u143, u144, u145, u146, u147, u148, u149, u150, u151, u152, u153, u154, u155, u156, u157, u158, u159, u160, u161, u162, u163, u164, u165, u166, u167, u168, u169, u170, u171, u172, u173, u174, u175, u176, u177, u178, u179, u180, u181, u182, u183, u184, u185, u186, u187, u188, u189, u190, u191, u192, u193, u194, u195, u196, u197, u198, u199, u200, u201, u202, u203, u204, u205, u206, u207, u208, u209, u210, u211, u212, u213, u214, u215, u216, u217, u218, u219, u220, u221, u222, u223, u224, u225, u226, u227, u228, u229, u230, u231, u232, u233, u234, u235, u236, u237, u238, u239, u240, u241, u242, u243, u244, u245, u246, u247, u248, u249, u250, u251, u252, u253, u254, u255, u256, u257, u258, u259, u260, u261, u262, u263, u264, u265, u266, u267, u268, u269, u270, u271, u272, u273, u274, u275, u276, u277, u278, u279, u280, u281, u282, u283, u284, u285, u286, u287, u288, u289, u290, u291, u292, u293, u294, u295, u296, u297, u298, u299, u300, u301, u302, u303, u304, u305, u306, u307, u308, u309, u310, u311, u312, u313, u314, u315, u316, u317, u318, u319, u320, u321, u322, u323, u324, u325, u326, u327, u328, u329, u330, u331, u332, u333, u334, u335, u336, u337, u338, u339, u340, u341, u342, u343, u344, u345, u346, u347, u348, u349, u350, u351, u352, u353, u354, u355, u356, u357, u358, u359, u360, u361, u362, u363, u364, u365, u366, u367, u368, u369, u370, u371, u372, u373, u374, u375, u376, u377, u378, u379, u380, u381, u382, u383, u384, u385, u386, u387, u388, u389, u390, u391, u392, u393, u394, u395, u396], []⟩) : P a := by
  obtain ⟨⟨l⟩, d⟩ := a
  have hs : l.length = 397 := h.size
  have hd : d = [] := h.defers
  subst hd
  have e0 : l.getD 0 undef = s0 := by simpa using h.e0
  have e1 : l.getD 1 undef = s1 := by simpa using h.e1
  have e2 : l.getD 2 undef = s2 := by simpa using h.e2
  have e3 : l.getD 3 undef = s3 := by simpa using h.e3
  have e4 : l.getD 4 undef = s4 := by simpa using h.e4
  have e5 : l.getD 5 undef = s5 := by simpa using h.e5
  have e6 : l.getD 6 undef = s6 := by simpa using h.e6
  have e14 : l.getD 14 undef = s14 := by simpa using h.e14
  have e15 : l.getD 15 undef = s15 := by simpa using h.e15
  have e16 : l.getD 16 undef = s16 := by simpa using h.e16
  have e19 : l.getD 19 undef = s19 := by simpa using h.e19
  have e20 : l.getD 20 undef = s20 := by simpa using h.e20
  have e22 : l.getD 22 undef = s22 := by simpa using h.e22
  have e23 : l.getD 23 undef = s23 := by simpa using h.e23
  have e24 : l.getD 24 undef = s24 := by simpa using h.e24
  have e25 : l.getD 25 undef = s25 := by simpa using h.e25
  have e26 : l.getD 26 undef = s26 := by simpa using h.e26
  have e30 : l.getD 30 undef = s30 := by simpa using h.e30
  have e35 : l.getD 35 undef = s35 := by simpa using h.e35
  have e36 : l.getD 36 undef = s36 := by simpa using h.e36
  have e37 : l.getD 37 undef = s37 := by simpa using h.e37
  have e38 : l.getD 38 undef = s38 := by simpa using h.e38
  subst e0 e1 e2 e3 e4 e5 e6 e14 e15 e16 e19 e20 e22 e23 e24 e25 e26 e30 e35 e36 e37 e38
  have e := (list_all l _ hs).trans (range_all5 _)
  have := H (l.getD 7 undef) (l.getD 8 undef) (l.getD 9 undef) (l.getD 10 undef) (l.getD 11 undef) (l.getD 12 undef) (l.getD 13 undef) (l.getD 17 undef) (l.getD 18 undef) (l.getD 21 undef) (l.getD 27 undef) (l.getD 28 undef) (l.getD 29 undef) (l.getD 31 undef) (l.getD 32 undef) (l.getD 33 undef) (l.getD 34 undef) (l.getD 39 undef) (l.getD 40 undef) (l.getD 41 undef) (l.getD 42 undef) (l.getD 43 undef) (l.getD 44 undef) (l.getD 45 undef) (l.getD 46 undef) (l.getD 47 undef) (l.getD 48 undef) (l.getD 49 undef) (l.getD 50 undef) (l.getD 51 undef) (l.getD 52 undef) (l.getD 53 undef) (l.getD 54 undef) (l.getD 55 undef) (l.getD 56 undef) (l.getD 57 undef) (l.getD 58 undef) (l.getD 59 undef) (l.getD 60 undef) (l.getD 61 undef) (l.getD 62 undef) (l.getD 63 undef) (l.getD 64 undef) (l.getD 65 undef) (l.getD 66 undef) (l.getD 67 undef) (l.getD 68 undef) (l.getD 69 undef) (l.getD 70 undef) (l.getD 71 undef) (l.getD 72 undef) (l.getD 73 undef) (l.getD 74 undef) (l.getD 75 undef) (l.getD 76 undef) (l.getD 77 undef) (l.getD 78 undef) (l.getD 79 undef) (l.getD 80 undef) (l.getD 81 undef) (l.getD 82 undef) (l.getD 83 undef) (l.getD 84 undef) (l.getD 85 undef) (l.getD 86 undef) (l.getD 87 undef) (l.getD 88 undef) (l.getD 89 undef) (l.getD 90 undef) (l.getD 91 undef) (l.getD 92 undef) (l.getD 93 undef) (l.getD 94 undef) (l.getD 95 undef) (l.getD 96 undef) (l.getD 97 undef) (l.getD 98 undef) (l.getD 99 undef) (l.getD 100 undef) (l.getD 101 undef) (l.getD 102 undef) (l.getD 103 undef) (l.getD 104 undef) (l.getD 105 undef) (l.getD 106 undef) (l.getD 107 undef) (l.getD 108 undef) (l.getD 109 undef) (l.getD 110 undef) (l.getD 111 undef) (l.getD 112 undef) (l.getD 113 undef) (l.getD 114 undef) (l.getD 115 undef) (l.getD 116 undef) (l.getD 117 undef) (l.getD 118 undef) (l.getD 119 undef) (l.getD 120 undef) (l.getD 121 undef) (l.getD 122 undef) (l.getD 123 undef) (l.getD 124 undef) (l.getD 125 undef) (l.getD 126 undef) (l.getD 127 undef) (l.getD 128 undef) (l.getD 129 undef) (l.getD 130 undef) (l.getD 131 undef) (l.getD 132 undef) (l.getD 133 undef) (l.getD 134 undef) (l.getD 135 undef) (l.getD 136 undef) (l.getD 137 undef) (l.getD 138 undef) (l.getD 139 undef) (l.getD 140 undef) (l.getD 141 undef) (l.getD 142 undef) (l.getD 143 undef) (l.getD 144 undef) (l.getD 145 undef) (l.getD 146 undef) (l.getD 147 undef) (l.getD 148 undef) (l.getD 149 undef) (l.getD 150 undef) (l.getD 151 undef) (l.getD 152 undef) (l.getD 153 undef) (l.getD 154 undef) (l.getD 155 undef) (l.getD 156 undef) (l.getD 157 undef) (l.getD 158 undef) (l.getD 159 undef) (l.getD 160 undef) (l.getD 161 undef) (l.getD 162 undef) (l.getD 163 undef) (l.getD 164 undef) (l.getD 165 undef) (l.getD 166 undef) (l.getD 167 undef) (l.getD 168 undef) (l.getD 169 undef) (l.getD 170 undef) (l.getD 171 undef) (l.getD 172 undef) (l.getD 173 undef) (l.getD 174 undef) (l.getD 175 undef) (l.getD 176 undef) (l.getD 177 undef) (l.getD 178 undef) (l.getD 179 undef) (l.getD 180 undef) (l.getD 181 undef) (l.getD 182 undef) (l.getD 183 undef) (l.getD 184 undef) (l.getD 185 undef) (l.getD 186 undef) (l.getD 187 undef) (l.getD 188 undef) (l.getD 189 undef) (l.getD 190 undef) (l.getD 191 undef) (l.getD 192 undef) (l.getD 193 undef) (l.getD 194 undef) (l.getD 195 undef) (l.getD 196 undef) (l.getD 197 undef) (l.getD 198 undef) (l.getD 199 undef) (l.getD 200 undef) (l.getD 201 undef) (l.getD 202 undef) (l.getD 203 undef) (l.getD 204 undef) (l.getD 205 undef) (l.getD 206 undef) (l.getD 207 undef) (l.getD 208 undef) (l.getD 209 undef) (l.getD 210 undef) (l.getD 211 undef) (l.getD 212 undef) (l.getD 213 undef) (l.getD 214 undef) (l.getD 215 undef) (l.getD 216 undef) (l.getD 217 undef) (l.getD 218 undef) (l.getD 219 undef) (l.getD 220 undef) (l.getD 221 undef) (l.getD 222 undef) (l.getD 223 undef) (l.getD 224 undef) (l.getD 225 undef) (l.getD 226 undef) (l.getD 227 undef) (l.getD 228 undef) (l.getD 229 undef) (l.getD 230 undef) (l.getD 231 undef) (l.getD 232 undef) (l.getD 233 undef) (l.getD 234 undef) (l.getD 235 undef) (l.getD 236 undef) (l.getD 237 undef) (l.getD 238 undef) (l.getD 239 undef) (l.getD 240 undef) (l.getD 241 undef) (l.getD 242 undef) (l.getD 243 undef) (l.getD 244 undef) (l.getD 245 undef) (l.getD 246 undef) (l.getD 247 undef) (l.getD 248 undef) (l.getD 249 undef) (l.getD 250 undef) (l.getD 251 undef) (l.getD 252 undef) (l.getD 253 undef) (l.getD 254 undef) (l.getD 255 undef) (l.getD 256 undef) (l.getD 257 undef) (l.getD 258 undef) (l.getD 259 undef) (l.getD 260 undef) (l.getD 261 undef) (l.getD 262 undef) (l.getD 263 undef) (l.getD 264 undef) (l.getD 265 undef) (l.getD 266 undef) (l.getD 267 undef) (l.getD 268 undef) (l.getD 269 undef) (l.getD 270 undef) (l.getD 271 undef) (l.getD 272 undef) (l.getD 273 undef) (l.getD 274 undef) (l.getD 275 undef) (l.getD 276 undef) (l.getD 277 undef) (l.getD 278 undef) (l.getD 279 undef) (l.getD 280 undef) (l.getD 281 undef) (l.getD 282 undef) (l.getD 283 undef) (l.getD 284 undef) (l.getD 285 undef) (l.getD 286 undef) (l.getD 287 undef) (l.getD 288 undef) (l.getD 289 undef) (l.getD 290 undef) (l.getD 291 undef) (l.getD 292 undef) (l.getD 293 undef) (l.getD 294 undef) (l.getD 295 undef) (l.getD 296 undef) (l.getD 297 undef) (l.getD 298 undef) (l.getD 299 undef) (l.getD 300 undef) (l.getD 301 undef) (l.getD 302 undef) (l.getD 303 undef) (l.getD 304 undef) (l.getD 305 undef) (l.getD 306 undef) (l.getD 307 undef) (l.getD 308 undef) (l.getD 309 undef) (l.getD 310 undef) (l.getD 311 undef) (l.getD 312 undef) (l.getD 313 undef) (l.getD 314 undef) (l.getD 315 undef) (l.getD 316 undef) (l.getD 317 undef) (l.getD 318 undef) (l.getD 319 undef) (l.getD 320 undef) (l.getD 321 undef) (l.getD 322 undef) (l.getD 323 undef) (l.getD 324 undef) (l.getD 325 undef) (l.getD 326 undef) (l.getD 327 undef) (l.getD 328 undef) (l.getD 329 undef) (l.getD 330 undef) (l.getD 331 undef) (l.getD 332 undef) (l.getD 333 undef) (l.getD 334 undef) (l.getD 335 undef) (l.getD 336 undef) (l.getD 337 undef) (l.getD 338 undef) (l.getD 339 undef) (l.getD 340 undef) (l.getD 341 undef) (l.getD 342 undef) (l.getD 343 undef) (l.getD 344 undef) (l.getD 345 undef) (l.getD 346 undef) (l.getD 347 undef) (l.getD 348 undef) (l.getD 349 undef) (l.getD 350 undef) (l.getD 351 undef) (l.getD 352 undef) (l.getD 353 undef) (l.getD 354 undef) (l.getD 355 undef) (l.getD 356 undef) (l.getD 357 undef) (l.getD 358 undef) (l.getD 359 undef) (l.getD 360 undef) (l.getD 361 undef) (l.getD 362 undef) (l.getD 363 undef) (l.getD 364 undef) (l.getD 365 undef) (l.getD 366 undef) (l.getD 367 undef) (l.getD 368 undef) (l.getD 369 undef) (l.getD 370 undef) (l.getD 371 undef) (l.getD 372 undef) (l.getD 373 undef) (l.getD 374 undef) (l.getD 375 undef) (l.getD 376 undef) (l.getD 377 undef) (l.getD 378 undef) (l.getD 379 undef) (l.getD 380 undef) (l.getD 381 undef) (l.getD 382 undef) (l.getD 383 undef) (l.getD 384 undef) (l.getD 385 undef) (l.getD 386 undef) (l.getD 387 undef) (l.getD 388 undef) (l.getD 389 undef) (l.getD 390 undef) (l.getD 391 undef) (l.getD 392 undef) (l.getD 393 undef) (l.getD 394 undef) (l.getD 395 undef) (l.getD 396 undef)
  exact (congrArg (fun x => P ⟨⟨x⟩, []⟩) e).mpr this

/-- The law's arguments, as the call has them. -/
structure In5 (W : World) (a0 a1 a2 a3 a4 a5 a6 : Option Addr) (n0 n1 n2 n3 n4 n5 c0 c1 c2 c3 c4 c5 c6 : Nat) (A0 A1 : Nat → Option Addr) (C0 C1 : Nat → Nat) (L0 L1 : Nat → List Int) (B2 B3 B4 : Nat → Bool) (K : Nat → Int) (kk : List Int) : Prop where
  h0 : SliceAt W a0 n0 c0 (fun i => .slice (A0 i) (L0 i).length (C0 i))
  h1 : SliceAt W a1 n1 c1 (fun i => .slice (A1 i) (L1 i).length (C1 i))
  h2 : SliceAt W a2 n2 c2 (fun i => .bool (B2 i))
  h3 : SliceAt W a3 n3 c3 (fun i => .bool (B3 i))
  h4 : SliceAt W a4 n4 c4 (fun i => .bool (B4 i))
  h5 : SliceAt W a5 n5 c5 (fun j => .int .i64 (K j))
  h6 : BytesAt W a6 c6 kk
  r0 : ∀ i, i < n0 → BytesAt W (A0 i) (C0 i) (L0 i) ∧ U8 (L0 i)
  r1 : ∀ i, i < n1 → BytesAt W (A1 i) (C1 i) (L1 i) ∧ U8 (L1 i)
  u6 : U8 kk

/-- Wherever the law answers true, all is well. -/
def RetOk5 (Q : Exit → Act → World → Prop) (W : World) : Prop := ∀ a' (j : Nat) (s0 s1 s2 s3 s4 s5 s6 s15 s16 s19 s20 s22 s23 s24 s25 s26 s30 s35 s36 s37 s38 : Value), Fr5 a' s0 s1 s2 s3 s4 s5 s6 (.bool true) s15 s16 s19 s20 s22 s23 s24 s25 s26 s30 s35 s36 s37 s38 → Q .ret a' (W.drewN j)

theorem In5.drewN {W : World} {a0 a1 a2 a3 a4 a5 a6 : Option Addr} {n0 n1 n2 n3 n4 n5 c0 c1 c2 c3 c4 c5 c6 : Nat} {A0 A1 : Nat → Option Addr} {C0 C1 : Nat → Nat} {L0 L1 : Nat → List Int} {B2 B3 B4 : Nat → Bool} {K : Nat → Int} {kk : List Int} (h : In5 W a0 a1 a2 a3 a4 a5 a6 n0 n1 n2 n3 n4 n5 c0 c1 c2 c3 c4 c5 c6 A0 A1 C0 C1 L0 L1 B2 B3 B4 K kk) (j : Nat) : In5 (W.drewN j) a0 a1 a2 a3 a4 a5 a6 n0 n1 n2 n3 n4 n5 c0 c1 c2 c3 c4 c5 c6 A0 A1 C0 C1 L0 L1 B2 B3 B4 K kk :=
  ⟨h.h0.drewN j, h.h1.drewN j, h.h2.drewN j, h.h3.drewN j, h.h4.drewN j, h.h5.drewN j, h.h6.drewN j, fun i hi => ⟨(h.r0 i hi).1.drewN j, (h.r0 i hi).2⟩, fun i hi => ⟨(h.r1 i hi).1.drewN j, (h.r1 i hi).2⟩, h.u6⟩

theorem In5.below {W w' : World} {a0 a1 a2 a3 a4 a5 a6 : Option Addr} {n0 n1 n2 n3 n4 n5 c0 c1 c2 c3 c4 c5 c6 : Nat} {A0 A1 : Nat → Option Addr} {C0 C1 : Nat → Nat} {L0 L1 : Nat → List Int} {B2 B3 B4 : Nat → Bool} {K : Nat → Int} {kk : List Int} (h : In5 W a0 a1 a2 a3 a4 a5 a6 n0 n1 n2 n3 n4 n5 c0 c1 c2 c3 c4 c5 c6 A0 A1 C0 C1 L0 L1 B2 B3 B4 K kk) (hb : Below W.heap.size W w') : In5 w' a0 a1 a2 a3 a4 a5 a6 n0 n1 n2 n3 n4 n5 c0 c1 c2 c3 c4 c5 c6 A0 A1 C0 C1 L0 L1 B2 B3 B4 K kk :=
  ⟨h.h0.below hb, h.h1.below hb, h.h2.below hb, h.h3.below hb, h.h4.below hb, h.h5.below hb, h.h6.below hb, fun i hi => ⟨(h.r0 i hi).1.below hb, (h.r0 i hi).2⟩, fun i hi => ⟨(h.r1 i hi).1.below hb, (h.r1 i hi).2⟩, h.u6⟩

theorem In5.nat {W : World} {a0 a1 a2 a3 a4 a5 a6 : Option Addr} {n kn c0 c1 c2 c3 c4 c5 c6 : Nat} {A0 A1 : Nat → Option Addr} {C0 C1 : Nat → Nat} {L0 L1 : Nat → List Int} {B2 B3 B4 : Nat → Bool} {K : Nat → Int} {kk : List Int} (h : In5 W a0 a1 a2 a3 a4 a5 a6 n n n n n kn c0 c1 c2 c3 c4 c5 c6 A0 A1 C0 C1 L0 L1 B2 B3 B4 K kk) (hK : ∀ q, q < kn → 0 ≤ K q ∧ K q < n) : In5 W a0 a1 a2 a3 a4 a5 a6 n n n n n kn c0 c1 c2 c3 c4 c5 c6 A0 A1 C0 C1 L0 L1 B2 B3 B4 (fun j => (((fun j => (K j).toNat) j : Nat) : Int)) kk :=
  ⟨h.h0, h.h1, h.h2, h.h3, h.h4, h.h5.congr fun i hi => by have := hK i hi; simp only; rw [Int.toNat_of_nonneg this.1], h.h6, h.r0, h.r1, h.u6⟩

theorem RetOk5.drewN {Q : Exit → Act → World → Prop} {W : World} (h : RetOk5 Q W) (j : Nat) : RetOk5 Q (W.drewN j) := by
  intro a' m s0 s1 s2 s3 s4 s5 s6 s15 s16 s19 s20 s22 s23 s24 s25 s26 s30 s35 s36 s37 s38 hF
  rw [World.drewN_drewN]
  exact h a' _ _ _ _ _ _ _ _ _ _ _ _ _ _ _ _ _ _ _ _ _ _ hF

set_option maxHeartbeats 8000000 in
set_option maxRecDepth 100000 in
theorem five0 (a0 a1 a2 a3 a4 a5 a6 : Option Addr) (n0 n1 n2 n3 n4 n5 c0 c1 c2 c3 c4 c5 c6 : Nat) (A0 A1 : Nat → Option Addr) (C0 C1 : Nat → Nat) (L0 L1 : Nat → List Int) (B2 B3 B4 : Nat → Bool) (K : Nat → Int) (kk : List Int) (W : World) (Q : Exit → Act → World → Prop) (Z : Code) (a : Act) (s15 s14 s16 s19 s20 s22 s23 s24 s25 s26 s30 s35 s36 s37 s38 : Value)
    (hI : In5 W a0 a1 a2 a3 a4 a5 a6 n0 n1 n2 n3 n4 n5 c0 c1 c2 c3 c4 c5 c6 A0 A1 C0 C1 L0 L1 B2 B3 B4 K kk) (hR : RetOk5 Q W)
    (hF : Fr5 a (.slice a0 n0 c0) (.slice a1 n1 c1) (.slice a2 n2 c2) (.slice a3 n3 c3) (.slice a4 n4 c4) (.slice a5 n5 c5) (.slice a6 kk.length c6) (s14) (s15) (s16) (s19) (s20) (s22) (s23) (s24) (s25) (s26) (s30) (s35) (s36) (s37) (s38))
    (hZ : ∀ a', Fr5 a' (.slice a0 n0 c0) (.slice a1 n1 c1) (.slice a2 n2 c2) (.slice a3 n3 c3) (.slice a4 n4 c4) (.slice a5 n5 c5) (.slice a6 kk.length c6) (.bool false) (s15) (s16) (s19) (s20) (s22) (s23) (s24) (s25) (s26) (s30) (s35) (s36) (s37) (s38) → Code.wp Try.prog Z Q a' W) :
    Code.wp Try.prog (.seq (stm Try.f5.body 0) (.seq (stm Try.f5.body 1) Z)) Q a W := by
  have HZ := hide hZ
  have HR := hide hR
  have hz := zzBytes16 a0 a1 a2 a3 a4 a5 a6 n0 n1 n2 n3 n4 n5 kk.length c0 c1 c2 c3 c4 c5 c6 A0 A1 (fun i => (L0 i).length) (fun i => (L1 i).length) C0 C1 W hI.h0 hI.h1
  clear hZ hR
  refine fr_open5 (fun a => Code.wp Try.prog (.seq (stm Try.f5.body 0) (.seq (stm Try.f5.body 1) Z)) Q a W) a hF ?_
  intro u7 u8 u9 u10 u11 u12 u13 u17 u18 u21 u27 u28 u29 u31 u32 u33 u34 u39 u40 u41 u42 u43 u44 u45 u46 u47 u48 u49 u50 u51 u52 u53 u54 u55 u56 u57 u58 u59 u60 u61 u62 u63 u64 u65 u66 u67 u68 u69 u70 u71 u72 u73 u74 u75 u76 u77 u78 u79 u80 u81 u82 u83 u84 u85 u86 u87 u88 u89 u90 u91 u92 u93 u94 u95 u96 u97 u98 u99 u100 u101 u102 u103 u104 u105 u106 u107 u108 u109 u110 u111 u112 u113 u114 u115 u116 u117 u118 u119 u120 u121 u122 u123 u124 u125 u126 u127 u128 u129 u130 u131 u132 u133 u134 u135 u136 u137 u138 u139 u140 u141 u142 u143 u144 u145 u146 u147 u148 u149 u150 u151 u152 u153 u154 u155 u156 u157 u158 u159 u160 u161 u162 u163 u164 u165 u166 u167 u168 u169 u170 u171 u172 u173 u174 u175 u176 u177 u178 u179 u180 u181 u182 u183 u184 u185 u186 u187 u188 u189 u190 u191 u192 u193 u194 u195 u196 u197 u198 u199 u200 u201 u202 u203 u204 u205 u206 u207 u208 u209 u210 u211 u212 u213 u214 u215 u216 u217 u218 u219 u220 u221 u222 u223 u224 u225 u226 u227 u228 u229 u230 u231 u232 u233 u234 u235 u236 u237 u238 u239 u240 u241 u242 u243 u244 u245 u246 u247 u248 u249 u250 u251 u252 u253 u254 u255 u256 u257 u258 u259 u260 u261 u262 u263 u264 u265 u266 u267 u268 u269 u270 u271 u272 u273 u274 u275 u276 u277 u278 u279 u280 u281 u282 u283 u284 u285 u286 u287 u288 u289 u290 u291 u292 u293 u294 u295 u296 u297 u298 u299 u300 u301 u302 u303 u304 u305 u306 u307 u308 u309 u310 u311 u312 u313 u314 u315 u316 u317 u318 u319 u320 u321 u322 u323 u324 u325 u326 u327 u328 u329 u330 u331 u332 u333 u334 u335 u336 u337 u338 u339 u340 u341 u342 u343 u344 u345 u346 u347 u348 u349 u350 u351 u352 u353 u354 u355 u356 u357 u358 u359 u360 u361 u362 u363 u364 u365 u366 u367 u368 u369 u370 u371 u372 u373 u374 u375 u376 u377 u378 u379 u380 u381 u382 u383 u384 u385 u386 u387 u388 u389 u390 u391 u392 u393 u394 u395 u396
  dsimp only
  conv => arg 2; arg 1; whnf
  conv => arg 2; arg 2; arg 1; whnf
  go_wp2_with fail
  refine hz.mono ?_
  rintro e w1 ⟨b, rfl, rfl⟩
  cases b
  · go_wp2_with fail
    exact unhide HR _ 0 _ _ _ _ _ _ _ _ _ _ _ _ _ _ _ _ _ _ _ _ _ ⟨rfl, rfl, rfl, rfl, rfl, rfl, rfl, rfl, rfl, rfl, rfl, rfl, rfl, rfl, rfl, rfl, rfl, rfl, rfl, rfl, rfl, rfl, rfl, rfl⟩
  · go_wp2_with fail
    exact unhide HZ _ ⟨rfl, rfl, rfl, rfl, rfl, rfl, rfl, rfl, rfl, rfl, rfl, rfl, rfl, rfl, rfl, rfl, rfl, rfl, rfl, rfl, rfl, rfl, rfl, rfl⟩

end Go.Proofs.Qxb6002590a
