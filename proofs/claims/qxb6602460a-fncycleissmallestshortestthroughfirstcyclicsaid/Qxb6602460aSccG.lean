import Derived.Test.Qxb6602460aVisit2
namespace Go.Proofs.Qxb6602460a
open Go.RowKit Go.Maps Go.Own

structure Fr15b (a : Act) (s3 s5 s13 s14 s16 s17 s18 s19 s20 s21 s22 s23 s24 : Value) : Prop where
  size : a.tmps.size = 228
  defers : a.defers = []
  e3 : a.tmps.getD 3 undef = s3
  e5 : a.tmps.getD 5 undef = s5
  e13 : a.tmps.getD 13 undef = s13
  e14 : a.tmps.getD 14 undef = s14
  e16 : a.tmps.getD 16 undef = s16
  e17 : a.tmps.getD 17 undef = s17
  e18 : a.tmps.getD 18 undef = s18
  e19 : a.tmps.getD 19 undef = s19
  e20 : a.tmps.getD 20 undef = s20
  e21 : a.tmps.getD 21 undef = s21
  e22 : a.tmps.getD 22 undef = s22
  e23 : a.tmps.getD 23 undef = s23
  e24 : a.tmps.getD 24 undef = s24

set_option maxRecDepth 100000 in
theorem range_all15b (f : Nat → Value) : (List.range 228).map f = [f 0, f 1, f 2, f 3, f 4, f 5, f 6, f 7, f 8, f 9, f 10, f 11, f 12, f 13, f 14, f 15, f 16, f 17, f 18, f 19, f 20, f 21, f 22, f 23, f 24, f 25, f 26, f 27, f 28, f 29, f 30, f 31, f 32, f 33, f 34, f 35, f 36, f 37, f 38, f 39, f 40, f 41, f 42, f 43, f 44, f 45, f 46, f 47, f 48, f 49, f 50, f 51, f 52, f 53, f 54, f 55, f 56, f 57, f 58, f 59, f 60, f 61, f 62, f 63, f 64, f 65, f 66, f 67, f 68, f 69, f 70, f 71, f 72, f 73, f 74, f 75, f 76, f 77, f 78, f 79, f 80, f 81, f 82, f 83, f 84, f 85, f 86, f 87, f 88, f 89, f 90, f 91, f 92, f 93, f 94, f 95, f 96, f 97, f 98, f 99, f 100, f 101, f 102, f 103, f 104, f 105, f 106, f 107, f 108, f 109, f 110, f 111, f 112, f 113, f 114, f 115, f 116, f 117, f 118, f 119, f 120, f 121, f 122, f 123, f 124, f 125, f 126, f 127, f 128, f 129, f 130, f 131, f 132, f 133, f 134, f 135, f 136, f 137, f 138, f 139, f 140, f 141, f 142, f 143, f 144, f 145, f 146, f 147, f 148, f 149, f 150, f 151, f 152, f 153, f 154, f 155, f 156, f 157, f 158, f 159, f 160, f 161, f 162, f 163, f 164, f 165, f 166, f 167, f 168, f 169, f 170, f 171, f 172, f 173, f 174, f 175, f 176, f 177, f 178, f 179, f 180, f 181, f 182, f 183, f 184, f 185, f 186, f 187, f 188, f 189, f 190, f 191, f 192, f 193, f 194, f 195, f 196, f 197, f 198, f 199, f 200, f 201, f 202, f 203, f 204, f 205, f 206, f 207, f 208, f 209, f 210, f 211, f 212, f 213, f 214, f 215, f 216, f 217, f 218, f 219, f 220, f 221, f 222, f 223, f 224, f 225, f 226, f 227] := rfl

set_option maxRecDepth 100000 in
set_option maxHeartbeats 4000000 in
theorem fr_open15b {s3 s5 s13 s14 s16 s17 s18 s19 s20 s21 s22 s23 s24 : Value} (P : Act → Prop) (a : Act) (h : Fr15b a s3 s5 s13 s14 s16 s17 s18 s19 s20 s21 s22 s23 s24) (H : ∀ u0 u1 u2 u4 u6 u7 u8 u9 u10 u11 u12 u15 u25 u26 u27 u28 u29 u30 u31 u32 u33 u34 u35 u36 u37 u38 u39 u40 u41 u42 u43 u44 u45 u46 u47 u48 u49 u50 u51 u52 u53 u54 u55 u56 u57 u58 u59 u60 u61 u62 u63 u64 u65 u66 u67 u68 u69 u70 u71 u72 u73 u74 u75 u76 u77 u78 u79 u80 u81 u82 u83 u84 u85 u86 u87 u88 u89 u90 u91 u92 u93 u94 u95 u96 u97 u98 u99 u100 u101 u102 u103 u104 u105 u106 u107 u108 u109 u110 u111 u112 u113 u114 u115 u116 u117 u118 u119 u120 u121 u122 u123 u124 u125 u126 u127 u128 u129 u130 u131 u132 u133 u134 u135 u136 u137 u138 u139 u140 u141 u142 u143 u144 u145 u146 u147 u148 u149 u150 u151 u152 u153 u154 u155 u156 u157 u158 u159 u160 u161 u162 u163 u164 u165 u166 u167 u168 u169 u170 u171 u172 u173 u174 u175 u176 u177 u178 u179 u180 u181 u182 u183 u184 u185 u186 u187 u188 u189 u190 u191 u192 u193 u194 u195 u196 u197 u198 u199 u200 u201 u202 u203 u204 u205 u206 u207 u208 u209 u210 u211 u212 u213 u214 u215 u216 u217 u218 u219 u220 u221 u222 u223 u224 u225 u226 u227 : Value, P ⟨#[u0, u1, u2, s3, u4, s5, u6, u7, u8, u9, u10, u11, u12, s13, s14, u15, s16, s17, s18, s19, s20, s21, s22, s23, s24, u25, u26, u27, u28, u29, u30, u31, u32, u33, u34, u35, u36, u37, u38, u39, u40, u41, u42, u43, u44, u45, u46, u47, u48, u49, u50, u51, u52, u53, u54, u55, u56, u57, u58, u59, u60, u61, u62, u63, u64, u65, u66, u67, u68, u69, u70, u71, u72, u73, u74, u75, u76, u77, u78, u79, u80, u81, u82, u83, u84, u85, u86, u87, u88, u89, u90, u91, u92, u93, u94, u95, u96, u97, u98, u99, u100, u101, u102, u103, u104, u105, u106, u107, u108, u109, u110, u111, u112, u113, u114, u115, u116, u117, u118, u119, u120, u121, u122, u123, u124, u125, u126, u127, u128, u129, u130, u131, u132, u133, u134, u135, u136, u137, u138, u139, u140, u141, u142, u143, u144, u145, u146, u147, u148, u149, u150, u151, u152, u153, u154, u155, u156, u157, u158, u159, u160, u161, u162, u163, u164, u165, u166, u167, u168, u169, u170, u171, u172, u173, u174, u175, u176, u177, u178, u179, u180, u181, u182, u183, u184, u185, u186, u187, u188, u189, u190, u191, u192, u193, u194, u195, u196, u197, u198, u199, u200, u201, u202, u203, u204, u205, u206, u207, u208, u209, u210, u211, u212, u213, u214, u215, u216, u217, u218, u219, u220, u221, u222, u223, u224, u225, u226, u227], []⟩) : P a := by
  obtain ⟨⟨l⟩, d⟩ := a
  have hs : l.length = 228 := h.size
  have hd : d = [] := h.defers
  subst hd
  have e3 : l.getD 3 undef = s3 := by simpa using h.e3
  have e5 : l.getD 5 undef = s5 := by simpa using h.e5
  have e13 : l.getD 13 undef = s13 := by simpa using h.e13
  have e14 : l.getD 14 undef = s14 := by simpa using h.e14
  have e16 : l.getD 16 undef = s16 := by simpa using h.e16
  have e17 : l.getD 17 undef = s17 := by simpa using h.e17
  have e18 : l.getD 18 undef = s18 := by simpa using h.e18
  have e19 : l.getD 19 undef = s19 := by simpa using h.e19
  have e20 : l.getD 20 undef = s20 := by simpa using h.e20
  have e21 : l.getD 21 undef = s21 := by simpa using h.e21
  have e22 : l.getD 22 undef = s22 := by simpa using h.e22
  have e23 : l.getD 23 undef = s23 := by simpa using h.e23
  have e24 : l.getD 24 undef = s24 := by simpa using h.e24
  subst e3 e5 e13 e14 e16 e17 e18 e19 e20 e21 e22 e23 e24
  have e := (list_all l _ hs).trans (range_all15b _)
  have := H (l.getD 0 undef) (l.getD 1 undef) (l.getD 2 undef) (l.getD 4 undef) (l.getD 6 undef) (l.getD 7 undef) (l.getD 8 undef) (l.getD 9 undef) (l.getD 10 undef) (l.getD 11 undef) (l.getD 12 undef) (l.getD 15 undef) (l.getD 25 undef) (l.getD 26 undef) (l.getD 27 undef) (l.getD 28 undef) (l.getD 29 undef) (l.getD 30 undef) (l.getD 31 undef) (l.getD 32 undef) (l.getD 33 undef) (l.getD 34 undef) (l.getD 35 undef) (l.getD 36 undef) (l.getD 37 undef) (l.getD 38 undef) (l.getD 39 undef) (l.getD 40 undef) (l.getD 41 undef) (l.getD 42 undef) (l.getD 43 undef) (l.getD 44 undef) (l.getD 45 undef) (l.getD 46 undef) (l.getD 47 undef) (l.getD 48 undef) (l.getD 49 undef) (l.getD 50 undef) (l.getD 51 undef) (l.getD 52 undef) (l.getD 53 undef) (l.getD 54 undef) (l.getD 55 undef) (l.getD 56 undef) (l.getD 57 undef) (l.getD 58 undef) (l.getD 59 undef) (l.getD 60 undef) (l.getD 61 undef) (l.getD 62 undef) (l.getD 63 undef) (l.getD 64 undef) (l.getD 65 undef) (l.getD 66 undef) (l.getD 67 undef) (l.getD 68 undef) (l.getD 69 undef) (l.getD 70 undef) (l.getD 71 undef) (l.getD 72 undef) (l.getD 73 undef) (l.getD 74 undef) (l.getD 75 undef) (l.getD 76 undef) (l.getD 77 undef) (l.getD 78 undef) (l.getD 79 undef) (l.getD 80 undef) (l.getD 81 undef) (l.getD 82 undef) (l.getD 83 undef) (l.getD 84 undef) (l.getD 85 undef) (l.getD 86 undef) (l.getD 87 undef) (l.getD 88 undef) (l.getD 89 undef) (l.getD 90 undef) (l.getD 91 undef) (l.getD 92 undef) (l.getD 93 undef) (l.getD 94 undef) (l.getD 95 undef) (l.getD 96 undef) (l.getD 97 undef) (l.getD 98 undef) (l.getD 99 undef) (l.getD 100 undef) (l.getD 101 undef) (l.getD 102 undef) (l.getD 103 undef) (l.getD 104 undef) (l.getD 105 undef) (l.getD 106 undef) (l.getD 107 undef) (l.getD 108 undef) (l.getD 109 undef) (l.getD 110 undef) (l.getD 111 undef) (l.getD 112 undef) (l.getD 113 undef) (l.getD 114 undef) (l.getD 115 undef) (l.getD 116 undef) (l.getD 117 undef) (l.getD 118 undef) (l.getD 119 undef) (l.getD 120 undef) (l.getD 121 undef) (l.getD 122 undef) (l.getD 123 undef) (l.getD 124 undef) (l.getD 125 undef) (l.getD 126 undef) (l.getD 127 undef) (l.getD 128 undef) (l.getD 129 undef) (l.getD 130 undef) (l.getD 131 undef) (l.getD 132 undef) (l.getD 133 undef) (l.getD 134 undef) (l.getD 135 undef) (l.getD 136 undef) (l.getD 137 undef) (l.getD 138 undef) (l.getD 139 undef) (l.getD 140 undef) (l.getD 141 undef) (l.getD 142 undef) (l.getD 143 undef) (l.getD 144 undef) (l.getD 145 undef) (l.getD 146 undef) (l.getD 147 undef) (l.getD 148 undef) (l.getD 149 undef) (l.getD 150 undef) (l.getD 151 undef) (l.getD 152 undef) (l.getD 153 undef) (l.getD 154 undef) (l.getD 155 undef) (l.getD 156 undef) (l.getD 157 undef) (l.getD 158 undef) (l.getD 159 undef) (l.getD 160 undef) (l.getD 161 undef) (l.getD 162 undef) (l.getD 163 undef) (l.getD 164 undef) (l.getD 165 undef) (l.getD 166 undef) (l.getD 167 undef) (l.getD 168 undef) (l.getD 169 undef) (l.getD 170 undef) (l.getD 171 undef) (l.getD 172 undef) (l.getD 173 undef) (l.getD 174 undef) (l.getD 175 undef) (l.getD 176 undef) (l.getD 177 undef) (l.getD 178 undef) (l.getD 179 undef) (l.getD 180 undef) (l.getD 181 undef) (l.getD 182 undef) (l.getD 183 undef) (l.getD 184 undef) (l.getD 185 undef) (l.getD 186 undef) (l.getD 187 undef) (l.getD 188 undef) (l.getD 189 undef) (l.getD 190 undef) (l.getD 191 undef) (l.getD 192 undef) (l.getD 193 undef) (l.getD 194 undef) (l.getD 195 undef) (l.getD 196 undef) (l.getD 197 undef) (l.getD 198 undef) (l.getD 199 undef) (l.getD 200 undef) (l.getD 201 undef) (l.getD 202 undef) (l.getD 203 undef) (l.getD 204 undef) (l.getD 205 undef) (l.getD 206 undef) (l.getD 207 undef) (l.getD 208 undef) (l.getD 209 undef) (l.getD 210 undef) (l.getD 211 undef) (l.getD 212 undef) (l.getD 213 undef) (l.getD 214 undef) (l.getD 215 undef) (l.getD 216 undef) (l.getD 217 undef) (l.getD 218 undef) (l.getD 219 undef) (l.getD 220 undef) (l.getD 221 undef) (l.getD 222 undef) (l.getD 223 undef) (l.getD 224 undef) (l.getD 225 undef) (l.getD 226 undef) (l.getD 227 undef)
  exact (congrArg (fun x => P ⟨⟨x⟩, []⟩) e).mpr this

end Go.Proofs.Qxb6602460a
