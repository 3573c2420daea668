import Derived.Test.Qxb6602460aL5F
namespace Go.Proofs.Qxb6602460a
open Go.RowKit Go.Maps Go.Own

variable {n nn s b7 b11 b13 b21 m13 m21 c21 : Nat} {na oa ra : Option Addr} {nc oc rc : Nat} {w w' : World} {Q : Exit → Act → World → Prop} {a : Act} {s0 s1 s5 s6 s7 s8 s9 s10 s11 s13 s14 s15 s17 s18 s20 s21 s22 s23 s24 s26 s126 s127 s128 s153 s154 s155 s204 s205 s206 : Value} {A : Option Addr} {N C j k x v y m L h : Nat} {p z : Int}

set_option maxHeartbeats 8000000 in
set_option maxRecDepth 100000 in
theorem le53 (hL : L ≤ 65536) (hmk : ∀ w, (Instr.makeSlice 22 (.int .i64 0) (.int .i64 ((L : Int) + 1))).run Try.prog w = .ok (.slice (some ⟨w.heap.size, 0, Option.none⟩) 0 (L + 1)) (w.alloc (.cells (madeCells #[.int .i64 0] (L + 1)) 3)))
    (hF : Fr5d a (.slice na n nc) (.slice oa n oc) (s5) (.int .i64 (s : Nat)) (.slice (some ⟨b11, 0, Option.none⟩) n n) (.int .i64 (L : Nat)) (s20) (s153) (s154) (s155))
    (hZ : ∀ a' s22 s23 s24 s26 s204 s205 s206, Fr5e a' (.slice na n nc) (.slice oa n oc) (s5) (.int .i64 (s : Nat)) (.slice (some ⟨b11, 0, Option.none⟩) n n) (.int .i64 (L : Nat)) (.slice (some ⟨w.heap.size, 0, Option.none⟩) 0 (L + 1)) (s22) (s23) (s24) (s26) (s204) (s205) (s206) → Q .normal a' (w.alloc (.cells (madeCells #[.int .i64 0] (L + 1)) 3))) :
    Code.wp Try.prog (stm Try.f5.body 24) Q a w := by
  have HZ := hide hZ
  clear hZ
  refine fr_open5d (fun a => Code.wp Try.prog (stm Try.f5.body 24) Q a w) a hF ?_
  intro u2 u3 u4 u6 u7 u9 u10 u12 u13 u14 u15 u16 u17 u19 u21 u22 u23 u24 u25 u26 u27 u28 u29 u30 u31 u32 u33 u34 u35 u36 u37 u38 u39 u40 u41 u42 u43 u44 u45 u46 u47 u48 u49 u50 u51 u52 u53 u54 u55 u56 u57 u58 u59 u60 u61 u62 u63 u64 u65 u66 u67 u68 u69 u70 u71 u72 u73 u74 u75 u76 u77 u78 u79 u80 u81 u82 u83 u84 u85 u86 u87 u88 u89 u90 u91 u92 u93 u94 u95 u96 u97 u98 u99 u100 u101 u102 u103 u104 u105 u106 u107 u108 u109 u110 u111 u112 u113 u114 u115 u116 u117 u118 u119 u120 u121 u122 u123 u124 u125 u126 u127 u128 u129 u130 u131 u132 u133 u134 u135 u136 u137 u138 u139 u140 u141 u142 u143 u144 u145 u146 u147 u148 u149 u150 u151 u152 u156 u157 u158 u159 u160 u161 u162 u163 u164 u165 u166 u167 u168 u169 u170 u171 u172 u173 u174 u175 u176 u177 u178 u179 u180 u181 u182 u183 u184 u185 u186 u187 u188 u189 u190 u191 u192 u193 u194 u195 u196 u197 u198 u199 u200 u201 u202 u203 u204 u205 u206 u207 u208 u209 u210 u211 u212 u213 u214 u215 u216 u217 u218 u219 u220 u221 u222 u223 u224 u225 u226 u227 u228 u229 u230 u231 u232 u233 u234 u235 u236 u237 u238 u239 u240
  dsimp only
  conv => arg 2; whnf
  go_wp2_with fail
  exact unhide HZ _ _ _ _ _ _ _ _ ⟨rfl, rfl, rfl, rfl, rfl, rfl, rfl, rfl, rfl, rfl, rfl, rfl, rfl, rfl, rfl, rfl⟩

set_option maxHeartbeats 8000000 in
set_option maxRecDepth 100000 in
theorem le54 (hy : s < n) (hc : ∃ b off, na = some ⟨b, off, Option.none⟩ ∧ w.cell? ⟨b, off + s, Option.none⟩ = some (.int .i64 z)) (hrun : (Builtin.append_ #[22, 22] 22 #[.slice (some ⟨b21, 0, Option.none⟩) m21 c21, .slice (some ⟨w.heap.size, 0, Option.none⟩) 1 1]).run Try.prog (w.alloc (.cells #[.int .i64 z] 3)) = .ok (.slice (some ⟨b21, 0, Option.none⟩) (m21 + 1) c21) w')
    (hF : Fr5e a (.slice na n nc) (.slice oa n oc) (s5) (.int .i64 (s : Nat)) (.slice (some ⟨b11, 0, Option.none⟩) n n) (s18) (.slice (some ⟨b21, 0, Option.none⟩) m21 c21) (s22) (s23) (s24) (s26) (s204) (s205) (s206))
    (hZ : ∀ a', Fr5e a' (.slice na n nc) (.slice oa n oc) (s5) (.int .i64 (s : Nat)) (.slice (some ⟨b11, 0, Option.none⟩) n n) (s18) (.slice (some ⟨b21, 0, Option.none⟩) (m21 + 1) c21) (s22) (s23) (s24) (s26) (s204) (s205) (s206) → Q .normal a' w') :
    Code.wp Try.prog (stm Try.f5.body 25) Q a w := by
  have HZ := hide hZ
  obtain ⟨b, off, rfl, hc⟩ := hc
  have ly : ((s : Nat) : Int) < (n : Int) := by omega
  clear hZ 
  refine fr_open5e (fun a => Code.wp Try.prog (stm Try.f5.body 25) Q a w) a hF ?_
  intro u2 u3 u4 u6 u7 u9 u10 u12 u13 u14 u15 u16 u17 u19 u20 u25 u27 u28 u29 u30 u31 u32 u33 u34 u35 u36 u37 u38 u39 u40 u41 u42 u43 u44 u45 u46 u47 u48 u49 u50 u51 u52 u53 u54 u55 u56 u57 u58 u59 u60 u61 u62 u63 u64 u65 u66 u67 u68 u69 u70 u71 u72 u73 u74 u75 u76 u77 u78 u79 u80 u81 u82 u83 u84 u85 u86 u87 u88 u89 u90 u91 u92 u93 u94 u95 u96 u97 u98 u99 u100 u101 u102 u103 u104 u105 u106 u107 u108 u109 u110 u111 u112 u113 u114 u115 u116 u117 u118 u119 u120 u121 u122 u123 u124 u125 u126 u127 u128 u129 u130 u131 u132 u133 u134 u135 u136 u137 u138 u139 u140 u141 u142 u143 u144 u145 u146 u147 u148 u149 u150 u151 u152 u153 u154 u155 u156 u157 u158 u159 u160 u161 u162 u163 u164 u165 u166 u167 u168 u169 u170 u171 u172 u173 u174 u175 u176 u177 u178 u179 u180 u181 u182 u183 u184 u185 u186 u187 u188 u189 u190 u191 u192 u193 u194 u195 u196 u197 u198 u199 u200 u201 u202 u203 u207 u208 u209 u210 u211 u212 u213 u214 u215 u216 u217 u218 u219 u220 u221 u222 u223 u224 u225 u226 u227 u228 u229 u230 u231 u232 u233 u234 u235 u236 u237 u238 u239 u240
  dsimp only
  conv => arg 2; whnf
  go_wp2_with (at_builtin; refine Lib.wpList_append_run _ rfl _ _ _ _ rfl _ _ rfl rfl _ _ hrun ?_)
  exact unhide HZ _ ⟨rfl, rfl, rfl, rfl, rfl, rfl, rfl, rfl, rfl, rfl, rfl, rfl, rfl, rfl, rfl, rfl⟩

set_option maxHeartbeats 8000000 in
set_option maxRecDepth 100000 in
theorem le55 
    (hF : Fr5e a (.slice na n nc) (.slice oa n oc) (s5) (.int .i64 (s : Nat)) (.slice (some ⟨b11, 0, Option.none⟩) n n) (s18) (s21) (s22) (s23) (s24) (s26) (s204) (s205) (s206))
    (hZ : ∀ a', Fr5e a' (.slice na n nc) (.slice oa n oc) (s5) (.int .i64 (s : Nat)) (.slice (some ⟨b11, 0, Option.none⟩) n n) (s18) (s21) (.int .i64 (s : Nat)) (s23) (s24) (s26) (s204) (s205) (s206) → Q .normal a' w) :
    Code.wp Try.prog (stm Try.f5.body 26) Q a w := by
  have HZ := hide hZ
  clear hZ 
  refine fr_open5e (fun a => Code.wp Try.prog (stm Try.f5.body 26) Q a w) a hF ?_
  intro u2 u3 u4 u6 u7 u9 u10 u12 u13 u14 u15 u16 u17 u19 u20 u25 u27 u28 u29 u30 u31 u32 u33 u34 u35 u36 u37 u38 u39 u40 u41 u42 u43 u44 u45 u46 u47 u48 u49 u50 u51 u52 u53 u54 u55 u56 u57 u58 u59 u60 u61 u62 u63 u64 u65 u66 u67 u68 u69 u70 u71 u72 u73 u74 u75 u76 u77 u78 u79 u80 u81 u82 u83 u84 u85 u86 u87 u88 u89 u90 u91 u92 u93 u94 u95 u96 u97 u98 u99 u100 u101 u102 u103 u104 u105 u106 u107 u108 u109 u110 u111 u112 u113 u114 u115 u116 u117 u118 u119 u120 u121 u122 u123 u124 u125 u126 u127 u128 u129 u130 u131 u132 u133 u134 u135 u136 u137 u138 u139 u140 u141 u142 u143 u144 u145 u146 u147 u148 u149 u150 u151 u152 u153 u154 u155 u156 u157 u158 u159 u160 u161 u162 u163 u164 u165 u166 u167 u168 u169 u170 u171 u172 u173 u174 u175 u176 u177 u178 u179 u180 u181 u182 u183 u184 u185 u186 u187 u188 u189 u190 u191 u192 u193 u194 u195 u196 u197 u198 u199 u200 u201 u202 u203 u207 u208 u209 u210 u211 u212 u213 u214 u215 u216 u217 u218 u219 u220 u221 u222 u223 u224 u225 u226 u227 u228 u229 u230 u231 u232 u233 u234 u235 u236 u237 u238 u239 u240
  dsimp only
  conv => arg 2; whnf
  go_wp2_with fail
  exact unhide HZ _ ⟨rfl, rfl, rfl, rfl, rfl, rfl, rfl, rfl, rfl, rfl, rfl, rfl, rfl, rfl, rfl, rfl⟩

set_option maxHeartbeats 8000000 in
set_option maxRecDepth 100000 in
theorem le56 
    (hF : Fr5e a (.slice na n nc) (.slice oa n oc) (s5) (.int .i64 (s : Nat)) (.slice (some ⟨b11, 0, Option.none⟩) n n) (.int .i64 (L : Nat)) (s21) (s22) (s23) (s24) (s26) (s204) (s205) (s206))
    (hZ : ∀ a', Fr5e a' (.slice na n nc) (.slice oa n oc) (s5) (.int .i64 (s : Nat)) (.slice (some ⟨b11, 0, Option.none⟩) n n) (.int .i64 (L : Nat)) (s21) (s22) (.int .i64 (L : Nat)) (s24) (s26) (s204) (s205) (s206) → Q .normal a' w) :
    Code.wp Try.prog (headC (stm Try.f5.body 27)) Q a w := by
  have HZ := hide hZ
  clear hZ 
  refine fr_open5e (fun a => Code.wp Try.prog (headC (stm Try.f5.body 27)) Q a w) a hF ?_
  intro u2 u3 u4 u6 u7 u9 u10 u12 u13 u14 u15 u16 u17 u19 u20 u25 u27 u28 u29 u30 u31 u32 u33 u34 u35 u36 u37 u38 u39 u40 u41 u42 u43 u44 u45 u46 u47 u48 u49 u50 u51 u52 u53 u54 u55 u56 u57 u58 u59 u60 u61 u62 u63 u64 u65 u66 u67 u68 u69 u70 u71 u72 u73 u74 u75 u76 u77 u78 u79 u80 u81 u82 u83 u84 u85 u86 u87 u88 u89 u90 u91 u92 u93 u94 u95 u96 u97 u98 u99 u100 u101 u102 u103 u104 u105 u106 u107 u108 u109 u110 u111 u112 u113 u114 u115 u116 u117 u118 u119 u120 u121 u122 u123 u124 u125 u126 u127 u128 u129 u130 u131 u132 u133 u134 u135 u136 u137 u138 u139 u140 u141 u142 u143 u144 u145 u146 u147 u148 u149 u150 u151 u152 u153 u154 u155 u156 u157 u158 u159 u160 u161 u162 u163 u164 u165 u166 u167 u168 u169 u170 u171 u172 u173 u174 u175 u176 u177 u178 u179 u180 u181 u182 u183 u184 u185 u186 u187 u188 u189 u190 u191 u192 u193 u194 u195 u196 u197 u198 u199 u200 u201 u202 u203 u207 u208 u209 u210 u211 u212 u213 u214 u215 u216 u217 u218 u219 u220 u221 u222 u223 u224 u225 u226 u227 u228 u229 u230 u231 u232 u233 u234 u235 u236 u237 u238 u239 u240
  dsimp only
  conv => arg 2; whnf
  go_wp2_with fail
  exact unhide HZ _ ⟨rfl, rfl, rfl, rfl, rfl, rfl, rfl, rfl, rfl, rfl, rfl, rfl, rfl, rfl, rfl, rfl⟩

set_option maxHeartbeats 8000000 in
set_option maxRecDepth 100000 in
theorem le57 
    (hF : Fr5e a (.slice na n nc) (.slice oa n oc) (s5) (.int .i64 (s : Nat)) (.slice (some ⟨b11, 0, Option.none⟩) n n) (s18) (s21) (s22) (.int .i64 (m : Nat)) (s24) (s26) (s204) (s205) (s206))
    (h1 : 0 < m → ∀ a', Fr5e a' (.slice na n nc) (.slice oa n oc) (s5) (.int .i64 (s : Nat)) (.slice (some ⟨b11, 0, Option.none⟩) n n) (s18) (s21) (s22) (.int .i64 (m : Nat)) (s24) (s26) (s204) (s205) (s206) → Q .normal a' w)
    (h2 : ¬ 0 < m → ∀ a', Fr5e a' (.slice na n nc) (.slice oa n oc) (s5) (.int .i64 (s : Nat)) (.slice (some ⟨b11, 0, Option.none⟩) n n) (s18) (s21) (s22) (.int .i64 (m : Nat)) (s24) (s26) (s204) (s205) (s206) → Q (.exit 10) a' w) :
    Code.wp Try.prog (headC (innerC (innerC (tailC (stm Try.f5.body 27))))) Q a w := by
  by_cases hc : 0 < m
  · have HZ := hide (h1 hc)
    have t1 : (0 : Int) < (m : Int) := by omega
    clear h1 h2 
    refine fr_open5e (fun a => Code.wp Try.prog (headC (innerC (innerC (tailC (stm Try.f5.body 27))))) Q a w) a hF ?_
    intro u2 u3 u4 u6 u7 u9 u10 u12 u13 u14 u15 u16 u17 u19 u20 u25 u27 u28 u29 u30 u31 u32 u33 u34 u35 u36 u37 u38 u39 u40 u41 u42 u43 u44 u45 u46 u47 u48 u49 u50 u51 u52 u53 u54 u55 u56 u57 u58 u59 u60 u61 u62 u63 u64 u65 u66 u67 u68 u69 u70 u71 u72 u73 u74 u75 u76 u77 u78 u79 u80 u81 u82 u83 u84 u85 u86 u87 u88 u89 u90 u91 u92 u93 u94 u95 u96 u97 u98 u99 u100 u101 u102 u103 u104 u105 u106 u107 u108 u109 u110 u111 u112 u113 u114 u115 u116 u117 u118 u119 u120 u121 u122 u123 u124 u125 u126 u127 u128 u129 u130 u131 u132 u133 u134 u135 u136 u137 u138 u139 u140 u141 u142 u143 u144 u145 u146 u147 u148 u149 u150 u151 u152 u153 u154 u155 u156 u157 u158 u159 u160 u161 u162 u163 u164 u165 u166 u167 u168 u169 u170 u171 u172 u173 u174 u175 u176 u177 u178 u179 u180 u181 u182 u183 u184 u185 u186 u187 u188 u189 u190 u191 u192 u193 u194 u195 u196 u197 u198 u199 u200 u201 u202 u203 u207 u208 u209 u210 u211 u212 u213 u214 u215 u216 u217 u218 u219 u220 u221 u222 u223 u224 u225 u226 u227 u228 u229 u230 u231 u232 u233 u234 u235 u236 u237 u238 u239 u240
    dsimp only
    conv => arg 2; whnf
    go_wp2_with fail
    exact unhide HZ _ ⟨rfl, rfl, rfl, rfl, rfl, rfl, rfl, rfl, rfl, rfl, rfl, rfl, rfl, rfl, rfl, rfl⟩
  · have HZ := hide (h2 hc)
    obtain rfl : m = 0 := by omega
    clear h1 h2 
    refine fr_open5e (fun a => Code.wp Try.prog (headC (innerC (innerC (tailC (stm Try.f5.body 27))))) Q a w) a hF ?_
    intro u2 u3 u4 u6 u7 u9 u10 u12 u13 u14 u15 u16 u17 u19 u20 u25 u27 u28 u29 u30 u31 u32 u33 u34 u35 u36 u37 u38 u39 u40 u41 u42 u43 u44 u45 u46 u47 u48 u49 u50 u51 u52 u53 u54 u55 u56 u57 u58 u59 u60 u61 u62 u63 u64 u65 u66 u67 u68 u69 u70 u71 u72 u73 u74 u75 u76 u77 u78 u79 u80 u81 u82 u83 u84 u85 u86 u87 u88 u89 u90 u91 u92 u93 u94 u95 u96 u97 u98 u99 u100 u101 u102 u103 u104 u105 u106 u107 u108 u109 u110 u111 u112 u113 u114 u115 u116 u117 u118 u119 u120 u121 u122 u123 u124 u125 u126 u127 u128 u129 u130 u131 u132 u133 u134 u135 u136 u137 u138 u139 u140 u141 u142 u143 u144 u145 u146 u147 u148 u149 u150 u151 u152 u153 u154 u155 u156 u157 u158 u159 u160 u161 u162 u163 u164 u165 u166 u167 u168 u169 u170 u171 u172 u173 u174 u175 u176 u177 u178 u179 u180 u181 u182 u183 u184 u185 u186 u187 u188 u189 u190 u191 u192 u193 u194 u195 u196 u197 u198 u199 u200 u201 u202 u203 u207 u208 u209 u210 u211 u212 u213 u214 u215 u216 u217 u218 u219 u220 u221 u222 u223 u224 u225 u226 u227 u228 u229 u230 u231 u232 u233 u234 u235 u236 u237 u238 u239 u240
    dsimp only
    conv => arg 2; whnf
    go_wp2_with fail
    exact unhide HZ _ ⟨rfl, rfl, rfl, rfl, rfl, rfl, rfl, rfl, rfl, rfl, rfl, rfl, rfl, rfl, rfl, rfl⟩

set_option maxHeartbeats 8000000 in
set_option maxRecDepth 100000 in
theorem le59 
    (hF : Fr5e a (.slice na n nc) (.slice oa n oc) (s5) (.int .i64 (s : Nat)) (.slice (some ⟨b11, 0, Option.none⟩) n n) (s18) (s21) (s22) (s23) (s24) (s26) (s204) (s205) (s206))
    (hZ : ∀ a', Fr5e a' (.slice na n nc) (.slice oa n oc) (s5) (.int .i64 (s : Nat)) (.slice (some ⟨b11, 0, Option.none⟩) n n) (s18) (s21) (s22) (s23) (.int .i64 (-1)) (s26) (s204) (s205) (s206) → Q .normal a' w) :
    Code.wp Try.prog (headC (innerC (headC (tailC (innerC (innerC (tailC (stm Try.f5.body 27)))))))) Q a w := by
  have HZ := hide hZ
  clear hZ 
  refine fr_open5e (fun a => Code.wp Try.prog (headC (innerC (headC (tailC (innerC (innerC (tailC (stm Try.f5.body 27)))))))) Q a w) a hF ?_
  intro u2 u3 u4 u6 u7 u9 u10 u12 u13 u14 u15 u16 u17 u19 u20 u25 u27 u28 u29 u30 u31 u32 u33 u34 u35 u36 u37 u38 u39 u40 u41 u42 u43 u44 u45 u46 u47 u48 u49 u50 u51 u52 u53 u54 u55 u56 u57 u58 u59 u60 u61 u62 u63 u64 u65 u66 u67 u68 u69 u70 u71 u72 u73 u74 u75 u76 u77 u78 u79 u80 u81 u82 u83 u84 u85 u86 u87 u88 u89 u90 u91 u92 u93 u94 u95 u96 u97 u98 u99 u100 u101 u102 u103 u104 u105 u106 u107 u108 u109 u110 u111 u112 u113 u114 u115 u116 u117 u118 u119 u120 u121 u122 u123 u124 u125 u126 u127 u128 u129 u130 u131 u132 u133 u134 u135 u136 u137 u138 u139 u140 u141 u142 u143 u144 u145 u146 u147 u148 u149 u150 u151 u152 u153 u154 u155 u156 u157 u158 u159 u160 u161 u162 u163 u164 u165 u166 u167 u168 u169 u170 u171 u172 u173 u174 u175 u176 u177 u178 u179 u180 u181 u182 u183 u184 u185 u186 u187 u188 u189 u190 u191 u192 u193 u194 u195 u196 u197 u198 u199 u200 u201 u202 u203 u207 u208 u209 u210 u211 u212 u213 u214 u215 u216 u217 u218 u219 u220 u221 u222 u223 u224 u225 u226 u227 u228 u229 u230 u231 u232 u233 u234 u235 u236 u237 u238 u239 u240
  dsimp only
  conv => arg 2; whnf
  go_wp2_with fail
  exact unhide HZ _ ⟨rfl, rfl, rfl, rfl, rfl, rfl, rfl, rfl, rfl, rfl, rfl, rfl, rfl, rfl, rfl, rfl⟩

set_option maxHeartbeats 8000000 in
set_option maxRecDepth 100000 in
theorem le60 (hv : v < n) (hr : ∃ b off, oa = some ⟨b, off, Option.none⟩ ∧ w.cell? ⟨b, off + v, Option.none⟩ = some (.slice A N C))
    (hF : Fr5e a (.slice na n nc) (.slice oa n oc) (s5) (.int .i64 (s : Nat)) (.slice (some ⟨b11, 0, Option.none⟩) n n) (s18) (s21) (.int .i64 (v : Nat)) (s23) (s24) (s26) (s204) (s205) (s206))
    (hZ : ∀ a', Fr5e a' (.slice na n nc) (.slice oa n oc) (s5) (.int .i64 (s : Nat)) (.slice (some ⟨b11, 0, Option.none⟩) n n) (s18) (s21) (.int .i64 (v : Nat)) (s23) (s24) (s26) (.slice A N C) (.int .i64 (N : Nat)) (.int .i64 0) → Q .normal a' w) :
    Code.wp Try.prog (headC (headC (tailC (innerC (headC (tailC (innerC (innerC (tailC (stm Try.f5.body 27)))))))))) Q a w := by
  have HZ := hide hZ
  obtain ⟨b, off, rfl, hr⟩ := hr
  have lv : ((v : Nat) : Int) < (n : Int) := by omega
  clear hZ 
  refine fr_open5e (fun a => Code.wp Try.prog (headC (headC (tailC (innerC (headC (tailC (innerC (innerC (tailC (stm Try.f5.body 27)))))))))) Q a w) a hF ?_
  intro u2 u3 u4 u6 u7 u9 u10 u12 u13 u14 u15 u16 u17 u19 u20 u25 u27 u28 u29 u30 u31 u32 u33 u34 u35 u36 u37 u38 u39 u40 u41 u42 u43 u44 u45 u46 u47 u48 u49 u50 u51 u52 u53 u54 u55 u56 u57 u58 u59 u60 u61 u62 u63 u64 u65 u66 u67 u68 u69 u70 u71 u72 u73 u74 u75 u76 u77 u78 u79 u80 u81 u82 u83 u84 u85 u86 u87 u88 u89 u90 u91 u92 u93 u94 u95 u96 u97 u98 u99 u100 u101 u102 u103 u104 u105 u106 u107 u108 u109 u110 u111 u112 u113 u114 u115 u116 u117 u118 u119 u120 u121 u122 u123 u124 u125 u126 u127 u128 u129 u130 u131 u132 u133 u134 u135 u136 u137 u138 u139 u140 u141 u142 u143 u144 u145 u146 u147 u148 u149 u150 u151 u152 u153 u154 u155 u156 u157 u158 u159 u160 u161 u162 u163 u164 u165 u166 u167 u168 u169 u170 u171 u172 u173 u174 u175 u176 u177 u178 u179 u180 u181 u182 u183 u184 u185 u186 u187 u188 u189 u190 u191 u192 u193 u194 u195 u196 u197 u198 u199 u200 u201 u202 u203 u207 u208 u209 u210 u211 u212 u213 u214 u215 u216 u217 u218 u219 u220 u221 u222 u223 u224 u225 u226 u227 u228 u229 u230 u231 u232 u233 u234 u235 u236 u237 u238 u239 u240
  dsimp only
  conv => arg 2; whnf
  go_wp2_with fail
  exact unhide HZ _ ⟨rfl, rfl, rfl, rfl, rfl, rfl, rfl, rfl, rfl, rfl, rfl, rfl, rfl, rfl, rfl, rfl⟩

set_option maxHeartbeats 8000000 in
set_option maxRecDepth 100000 in
theorem le61 (X : Code) 
    (hF : Fr5e a (.slice na n nc) (.slice oa n oc) (s5) (.int .i64 (s : Nat)) (.slice (some ⟨b11, 0, Option.none⟩) n n) (s18) (s21) (s22) (s23) (s24) (s26) (.slice A N C) (.int .i64 (N : Nat)) (.int .i64 (k : Nat)))
    (h1 : k < N → ∀ a', Fr5e a' (.slice na n nc) (.slice oa n oc) (s5) (.int .i64 (s : Nat)) (.slice (some ⟨b11, 0, Option.none⟩) n n) (s18) (s21) (s22) (s23) (s24) (s26) (.slice A N C) (.int .i64 (N : Nat)) (.int .i64 (k : Nat)) → Code.wp Try.prog X Q a' w)
    (h2 : ¬ k < N → ∀ a', Fr5e a' (.slice na n nc) (.slice oa n oc) (s5) (.int .i64 (s : Nat)) (.slice (some ⟨b11, 0, Option.none⟩) n n) (s18) (s21) (s22) (s23) (s24) (s26) (.slice A N C) (.int .i64 (N : Nat)) (.int .i64 (k : Nat)) → Q (.exit 12) a' w) :
    Code.wp Try.prog (.seq (headC (innerC (innerC (tailC (headC (tailC (innerC (headC (tailC (innerC (innerC (tailC (stm Try.f5.body 27))))))))))))) (.seq (headC (tailC (innerC (innerC (tailC (headC (tailC (innerC (headC (tailC (innerC (innerC (tailC (stm Try.f5.body 27)))))))))))))) X)) Q a w := by
  by_cases hk : k < N
  · have HZ := hide (h1 hk)
    have lk : ((k : Nat) : Int) < ((N : Nat) : Int) := by omega
    clear h1 h2 hk
    refine fr_open5e (fun a => Code.wp Try.prog (.seq (headC (innerC (innerC (tailC (headC (tailC (innerC (headC (tailC (innerC (innerC (tailC (stm Try.f5.body 27))))))))))))) (.seq (headC (tailC (innerC (innerC (tailC (headC (tailC (innerC (headC (tailC (innerC (innerC (tailC (stm Try.f5.body 27)))))))))))))) X)) Q a w) a hF ?_
    intro u2 u3 u4 u6 u7 u9 u10 u12 u13 u14 u15 u16 u17 u19 u20 u25 u27 u28 u29 u30 u31 u32 u33 u34 u35 u36 u37 u38 u39 u40 u41 u42 u43 u44 u45 u46 u47 u48 u49 u50 u51 u52 u53 u54 u55 u56 u57 u58 u59 u60 u61 u62 u63 u64 u65 u66 u67 u68 u69 u70 u71 u72 u73 u74 u75 u76 u77 u78 u79 u80 u81 u82 u83 u84 u85 u86 u87 u88 u89 u90 u91 u92 u93 u94 u95 u96 u97 u98 u99 u100 u101 u102 u103 u104 u105 u106 u107 u108 u109 u110 u111 u112 u113 u114 u115 u116 u117 u118 u119 u120 u121 u122 u123 u124 u125 u126 u127 u128 u129 u130 u131 u132 u133 u134 u135 u136 u137 u138 u139 u140 u141 u142 u143 u144 u145 u146 u147 u148 u149 u150 u151 u152 u153 u154 u155 u156 u157 u158 u159 u160 u161 u162 u163 u164 u165 u166 u167 u168 u169 u170 u171 u172 u173 u174 u175 u176 u177 u178 u179 u180 u181 u182 u183 u184 u185 u186 u187 u188 u189 u190 u191 u192 u193 u194 u195 u196 u197 u198 u199 u200 u201 u202 u203 u207 u208 u209 u210 u211 u212 u213 u214 u215 u216 u217 u218 u219 u220 u221 u222 u223 u224 u225 u226 u227 u228 u229 u230 u231 u232 u233 u234 u235 u236 u237 u238 u239 u240
    dsimp only
    conv => arg 2; arg 1; whnf
    conv => arg 2; arg 2; arg 1; whnf
    go_wp2_with fail
    exact unhide HZ _ ⟨rfl, rfl, rfl, rfl, rfl, rfl, rfl, rfl, rfl, rfl, rfl, rfl, rfl, rfl, rfl, rfl⟩
  · have HZ := hide (h2 hk)
    have lk : ¬ ((k : Nat) : Int) < ((N : Nat) : Int) := by omega
    clear h1 h2 hk
    refine fr_open5e (fun a => Code.wp Try.prog (.seq (headC (innerC (innerC (tailC (headC (tailC (innerC (headC (tailC (innerC (innerC (tailC (stm Try.f5.body 27))))))))))))) (.seq (headC (tailC (innerC (innerC (tailC (headC (tailC (innerC (headC (tailC (innerC (innerC (tailC (stm Try.f5.body 27)))))))))))))) X)) Q a w) a hF ?_
    intro u2 u3 u4 u6 u7 u9 u10 u12 u13 u14 u15 u16 u17 u19 u20 u25 u27 u28 u29 u30 u31 u32 u33 u34 u35 u36 u37 u38 u39 u40 u41 u42 u43 u44 u45 u46 u47 u48 u49 u50 u51 u52 u53 u54 u55 u56 u57 u58 u59 u60 u61 u62 u63 u64 u65 u66 u67 u68 u69 u70 u71 u72 u73 u74 u75 u76 u77 u78 u79 u80 u81 u82 u83 u84 u85 u86 u87 u88 u89 u90 u91 u92 u93 u94 u95 u96 u97 u98 u99 u100 u101 u102 u103 u104 u105 u106 u107 u108 u109 u110 u111 u112 u113 u114 u115 u116 u117 u118 u119 u120 u121 u122 u123 u124 u125 u126 u127 u128 u129 u130 u131 u132 u133 u134 u135 u136 u137 u138 u139 u140 u141 u142 u143 u144 u145 u146 u147 u148 u149 u150 u151 u152 u153 u154 u155 u156 u157 u158 u159 u160 u161 u162 u163 u164 u165 u166 u167 u168 u169 u170 u171 u172 u173 u174 u175 u176 u177 u178 u179 u180 u181 u182 u183 u184 u185 u186 u187 u188 u189 u190 u191 u192 u193 u194 u195 u196 u197 u198 u199 u200 u201 u202 u203 u207 u208 u209 u210 u211 u212 u213 u214 u215 u216 u217 u218 u219 u220 u221 u222 u223 u224 u225 u226 u227 u228 u229 u230 u231 u232 u233 u234 u235 u236 u237 u238 u239 u240
    dsimp only
    conv => arg 2; arg 1; whnf
    conv => arg 2; arg 2; arg 1; whnf
    go_wp2_with fail
    exact unhide HZ _ ⟨rfl, rfl, rfl, rfl, rfl, rfl, rfl, rfl, rfl, rfl, rfl, rfl, rfl, rfl, rfl, rfl⟩

set_option maxHeartbeats 8000000 in
set_option maxRecDepth 100000 in
theorem le62 (hk : k < N) (hg : ∃ b off, A = some ⟨b, off, Option.none⟩ ∧ w.cell? ⟨b, off + k, Option.none⟩ = some (.int .i64 (x : Nat)))
    (hF : Fr5e a (.slice na n nc) (.slice oa n oc) (s5) (.int .i64 (s : Nat)) (.slice (some ⟨b11, 0, Option.none⟩) n n) (s18) (s21) (s22) (s23) (s24) (s26) (.slice A N C) (.int .i64 (N : Nat)) (.int .i64 (k : Nat)))
    (hZ : ∀ a', Fr5e a' (.slice na n nc) (.slice oa n oc) (s5) (.int .i64 (s : Nat)) (.slice (some ⟨b11, 0, Option.none⟩) n n) (s18) (s21) (s22) (s23) (s24) (.int .i64 (x : Nat)) (.slice A N C) (.int .i64 (N : Nat)) (.int .i64 (k : Nat)) → Q .normal a' w) :
    Code.wp Try.prog (headC (innerC (headC (tailC (tailC (innerC (innerC (tailC (headC (tailC (innerC (headC (tailC (innerC (innerC (tailC (stm Try.f5.body 27))))))))))))))))) Q a w := by
  have HZ := hide hZ
  obtain ⟨b, off, rfl, hg⟩ := hg
  have lk : (k : Int) < (N : Int) := by omega
  clear hZ 
  refine fr_open5e (fun a => Code.wp Try.prog (headC (innerC (headC (tailC (tailC (innerC (innerC (tailC (headC (tailC (innerC (headC (tailC (innerC (innerC (tailC (stm Try.f5.body 27))))))))))))))))) Q a w) a hF ?_
  intro u2 u3 u4 u6 u7 u9 u10 u12 u13 u14 u15 u16 u17 u19 u20 u25 u27 u28 u29 u30 u31 u32 u33 u34 u35 u36 u37 u38 u39 u40 u41 u42 u43 u44 u45 u46 u47 u48 u49 u50 u51 u52 u53 u54 u55 u56 u57 u58 u59 u60 u61 u62 u63 u64 u65 u66 u67 u68 u69 u70 u71 u72 u73 u74 u75 u76 u77 u78 u79 u80 u81 u82 u83 u84 u85 u86 u87 u88 u89 u90 u91 u92 u93 u94 u95 u96 u97 u98 u99 u100 u101 u102 u103 u104 u105 u106 u107 u108 u109 u110 u111 u112 u113 u114 u115 u116 u117 u118 u119 u120 u121 u122 u123 u124 u125 u126 u127 u128 u129 u130 u131 u132 u133 u134 u135 u136 u137 u138 u139 u140 u141 u142 u143 u144 u145 u146 u147 u148 u149 u150 u151 u152 u153 u154 u155 u156 u157 u158 u159 u160 u161 u162 u163 u164 u165 u166 u167 u168 u169 u170 u171 u172 u173 u174 u175 u176 u177 u178 u179 u180 u181 u182 u183 u184 u185 u186 u187 u188 u189 u190 u191 u192 u193 u194 u195 u196 u197 u198 u199 u200 u201 u202 u203 u207 u208 u209 u210 u211 u212 u213 u214 u215 u216 u217 u218 u219 u220 u221 u222 u223 u224 u225 u226 u227 u228 u229 u230 u231 u232 u233 u234 u235 u236 u237 u238 u239 u240
  dsimp only
  conv => arg 2; whnf
  go_wp2_with fail
  exact unhide HZ _ ⟨rfl, rfl, rfl, rfl, rfl, rfl, rfl, rfl, rfl, rfl, rfl, rfl, rfl, rfl, rfl, rfl⟩

set_option maxHeartbeats 8000000 in
set_option maxRecDepth 100000 in
theorem le63 (X Y : Code) (hx : x < n) (hm : m + 1 ≤ 65536) (d1 : w.cell? ⟨b11, x, Option.none⟩ = some (.int .i64 p))
    (hF : Fr5e a (.slice na n nc) (.slice oa n oc) (s5) (.int .i64 (s : Nat)) (.slice (some ⟨b11, 0, Option.none⟩) n n) (s18) (s21) (s22) (.int .i64 ((m + 1 : Nat) : Int)) (.int .i64 z) (.int .i64 (x : Nat)) (s204) (s205) (s206))
    (h1 : p = (m : Int) → (z < 0 ∨ ((x : Nat) : Int) < z) → ∀ a', Fr5e a' (.slice na n nc) (.slice oa n oc) (s5) (.int .i64 (s : Nat)) (.slice (some ⟨b11, 0, Option.none⟩) n n) (s18) (s21) (s22) (.int .i64 ((m + 1 : Nat) : Int)) (.int .i64 z) (.int .i64 (x : Nat)) (s204) (s205) (s206) → Code.wp Try.prog X Q a' w)
    (h2 : ¬ (p = (m : Int) ∧ (z < 0 ∨ ((x : Nat) : Int) < z)) → ∀ a', Fr5e a' (.slice na n nc) (.slice oa n oc) (s5) (.int .i64 (s : Nat)) (.slice (some ⟨b11, 0, Option.none⟩) n n) (s18) (s21) (s22) (.int .i64 ((m + 1 : Nat) : Int)) (.int .i64 z) (.int .i64 (x : Nat)) (s204) (s205) (s206) → Code.wp Try.prog Y Q a' w) :
    Code.wp Try.prog (.seq (headC (tailC (innerC (headC (tailC (tailC (innerC (innerC (tailC (headC (tailC (innerC (headC (tailC (innerC (innerC (tailC (stm Try.f5.body 27)))))))))))))))))) (.cond (.tmp 225) X Y)) Q a w := by
  have lx : (x : Int) < (n : Int) := by omega
  by_cases g1 : p = (m : Int)
  · have t1 : decide (p = (m : Int)) = true := decide_eq_true g1
    by_cases g2 : z < 0
    · have t2 : decide (z < 0) = true := decide_eq_true g2
      have HZ := hide (h1 g1 (.inl g2))
      clear h1 h2
      refine fr_open5e (fun a => Code.wp Try.prog (.seq (headC (tailC (innerC (headC (tailC (tailC (innerC (innerC (tailC (headC (tailC (innerC (headC (tailC (innerC (innerC (tailC (stm Try.f5.body 27)))))))))))))))))) (.cond (.tmp 225) X Y)) Q a w) a hF ?_
      intro u2 u3 u4 u6 u7 u9 u10 u12 u13 u14 u15 u16 u17 u19 u20 u25 u27 u28 u29 u30 u31 u32 u33 u34 u35 u36 u37 u38 u39 u40 u41 u42 u43 u44 u45 u46 u47 u48 u49 u50 u51 u52 u53 u54 u55 u56 u57 u58 u59 u60 u61 u62 u63 u64 u65 u66 u67 u68 u69 u70 u71 u72 u73 u74 u75 u76 u77 u78 u79 u80 u81 u82 u83 u84 u85 u86 u87 u88 u89 u90 u91 u92 u93 u94 u95 u96 u97 u98 u99 u100 u101 u102 u103 u104 u105 u106 u107 u108 u109 u110 u111 u112 u113 u114 u115 u116 u117 u118 u119 u120 u121 u122 u123 u124 u125 u126 u127 u128 u129 u130 u131 u132 u133 u134 u135 u136 u137 u138 u139 u140 u141 u142 u143 u144 u145 u146 u147 u148 u149 u150 u151 u152 u153 u154 u155 u156 u157 u158 u159 u160 u161 u162 u163 u164 u165 u166 u167 u168 u169 u170 u171 u172 u173 u174 u175 u176 u177 u178 u179 u180 u181 u182 u183 u184 u185 u186 u187 u188 u189 u190 u191 u192 u193 u194 u195 u196 u197 u198 u199 u200 u201 u202 u203 u207 u208 u209 u210 u211 u212 u213 u214 u215 u216 u217 u218 u219 u220 u221 u222 u223 u224 u225 u226 u227 u228 u229 u230 u231 u232 u233 u234 u235 u236 u237 u238 u239 u240
      dsimp only
      conv => arg 2; arg 1; whnf
      go_wp2_with fail
      exact unhide HZ _ ⟨rfl, rfl, rfl, rfl, rfl, rfl, rfl, rfl, rfl, rfl, rfl, rfl, rfl, rfl, rfl, rfl⟩
    · have t2 : decide (z < 0) = false := decide_eq_false g2
      by_cases g3 : ((x : Nat) : Int) < z
      · have t3 : decide (((x : Nat) : Int) < z) = true := decide_eq_true g3
        have HZ := hide (h1 g1 (.inr g3))
        clear h1 h2
        refine fr_open5e (fun a => Code.wp Try.prog (.seq (headC (tailC (innerC (headC (tailC (tailC (innerC (innerC (tailC (headC (tailC (innerC (headC (tailC (innerC (innerC (tailC (stm Try.f5.body 27)))))))))))))))))) (.cond (.tmp 225) X Y)) Q a w) a hF ?_
        intro u2 u3 u4 u6 u7 u9 u10 u12 u13 u14 u15 u16 u17 u19 u20 u25 u27 u28 u29 u30 u31 u32 u33 u34 u35 u36 u37 u38 u39 u40 u41 u42 u43 u44 u45 u46 u47 u48 u49 u50 u51 u52 u53 u54 u55 u56 u57 u58 u59 u60 u61 u62 u63 u64 u65 u66 u67 u68 u69 u70 u71 u72 u73 u74 u75 u76 u77 u78 u79 u80 u81 u82 u83 u84 u85 u86 u87 u88 u89 u90 u91 u92 u93 u94 u95 u96 u97 u98 u99 u100 u101 u102 u103 u104 u105 u106 u107 u108 u109 u110 u111 u112 u113 u114 u115 u116 u117 u118 u119 u120 u121 u122 u123 u124 u125 u126 u127 u128 u129 u130 u131 u132 u133 u134 u135 u136 u137 u138 u139 u140 u141 u142 u143 u144 u145 u146 u147 u148 u149 u150 u151 u152 u153 u154 u155 u156 u157 u158 u159 u160 u161 u162 u163 u164 u165 u166 u167 u168 u169 u170 u171 u172 u173 u174 u175 u176 u177 u178 u179 u180 u181 u182 u183 u184 u185 u186 u187 u188 u189 u190 u191 u192 u193 u194 u195 u196 u197 u198 u199 u200 u201 u202 u203 u207 u208 u209 u210 u211 u212 u213 u214 u215 u216 u217 u218 u219 u220 u221 u222 u223 u224 u225 u226 u227 u228 u229 u230 u231 u232 u233 u234 u235 u236 u237 u238 u239 u240
        dsimp only
        conv => arg 2; arg 1; whnf
        go_wp2_with fail
        exact unhide HZ _ ⟨rfl, rfl, rfl, rfl, rfl, rfl, rfl, rfl, rfl, rfl, rfl, rfl, rfl, rfl, rfl, rfl⟩
      · have t3 : decide (((x : Nat) : Int) < z) = false := decide_eq_false g3
        have HZ := hide (h2 (fun h => h.2.elim g2 g3))
        clear h1 h2
        refine fr_open5e (fun a => Code.wp Try.prog (.seq (headC (tailC (innerC (headC (tailC (tailC (innerC (innerC (tailC (headC (tailC (innerC (headC (tailC (innerC (innerC (tailC (stm Try.f5.body 27)))))))))))))))))) (.cond (.tmp 225) X Y)) Q a w) a hF ?_
        intro u2 u3 u4 u6 u7 u9 u10 u12 u13 u14 u15 u16 u17 u19 u20 u25 u27 u28 u29 u30 u31 u32 u33 u34 u35 u36 u37 u38 u39 u40 u41 u42 u43 u44 u45 u46 u47 u48 u49 u50 u51 u52 u53 u54 u55 u56 u57 u58 u59 u60 u61 u62 u63 u64 u65 u66 u67 u68 u69 u70 u71 u72 u73 u74 u75 u76 u77 u78 u79 u80 u81 u82 u83 u84 u85 u86 u87 u88 u89 u90 u91 u92 u93 u94 u95 u96 u97 u98 u99 u100 u101 u102 u103 u104 u105 u106 u107 u108 u109 u110 u111 u112 u113 u114 u115 u116 u117 u118 u119 u120 u121 u122 u123 u124 u125 u126 u127 u128 u129 u130 u131 u132 u133 u134 u135 u136 u137 u138 u139 u140 u141 u142 u143 u144 u145 u146 u147 u148 u149 u150 u151 u152 u153 u154 u155 u156 u157 u158 u159 u160 u161 u162 u163 u164 u165 u166 u167 u168 u169 u170 u171 u172 u173 u174 u175 u176 u177 u178 u179 u180 u181 u182 u183 u184 u185 u186 u187 u188 u189 u190 u191 u192 u193 u194 u195 u196 u197 u198 u199 u200 u201 u202 u203 u207 u208 u209 u210 u211 u212 u213 u214 u215 u216 u217 u218 u219 u220 u221 u222 u223 u224 u225 u226 u227 u228 u229 u230 u231 u232 u233 u234 u235 u236 u237 u238 u239 u240
        dsimp only
        conv => arg 2; arg 1; whnf
        go_wp2_with fail
        exact unhide HZ _ ⟨rfl, rfl, rfl, rfl, rfl, rfl, rfl, rfl, rfl, rfl, rfl, rfl, rfl, rfl, rfl, rfl⟩
  · have t1 : decide (p = (m : Int)) = false := decide_eq_false g1
    have HZ := hide (h2 (fun h => g1 h.1))
    clear h1 h2
    refine fr_open5e (fun a => Code.wp Try.prog (.seq (headC (tailC (innerC (headC (tailC (tailC (innerC (innerC (tailC (headC (tailC (innerC (headC (tailC (innerC (innerC (tailC (stm Try.f5.body 27)))))))))))))))))) (.cond (.tmp 225) X Y)) Q a w) a hF ?_
    intro u2 u3 u4 u6 u7 u9 u10 u12 u13 u14 u15 u16 u17 u19 u20 u25 u27 u28 u29 u30 u31 u32 u33 u34 u35 u36 u37 u38 u39 u40 u41 u42 u43 u44 u45 u46 u47 u48 u49 u50 u51 u52 u53 u54 u55 u56 u57 u58 u59 u60 u61 u62 u63 u64 u65 u66 u67 u68 u69 u70 u71 u72 u73 u74 u75 u76 u77 u78 u79 u80 u81 u82 u83 u84 u85 u86 u87 u88 u89 u90 u91 u92 u93 u94 u95 u96 u97 u98 u99 u100 u101 u102 u103 u104 u105 u106 u107 u108 u109 u110 u111 u112 u113 u114 u115 u116 u117 u118 u119 u120 u121 u122 u123 u124 u125 u126 u127 u128 u129 u130 u131 u132 u133 u134 u135 u136 u137 u138 u139 u140 u141 u142 u143 u144 u145 u146 u147 u148 u149 u150 u151 u152 u153 u154 u155 u156 u157 u158 u159 u160 u161 u162 u163 u164 u165 u166 u167 u168 u169 u170 u171 u172 u173 u174 u175 u176 u177 u178 u179 u180 u181 u182 u183 u184 u185 u186 u187 u188 u189 u190 u191 u192 u193 u194 u195 u196 u197 u198 u199 u200 u201 u202 u203 u207 u208 u209 u210 u211 u212 u213 u214 u215 u216 u217 u218 u219 u220 u221 u222 u223 u224 u225 u226 u227 u228 u229 u230 u231 u232 u233 u234 u235 u236 u237 u238 u239 u240
    dsimp only
    conv => arg 2; arg 1; whnf
    go_wp2_with fail
    exact unhide HZ _ ⟨rfl, rfl, rfl, rfl, rfl, rfl, rfl, rfl, rfl, rfl, rfl, rfl, rfl, rfl, rfl, rfl⟩

set_option maxHeartbeats 8000000 in
set_option maxRecDepth 100000 in
theorem le64 
    (hF : Fr5e a (.slice na n nc) (.slice oa n oc) (s5) (.int .i64 (s : Nat)) (.slice (some ⟨b11, 0, Option.none⟩) n n) (s18) (s21) (s22) (s23) (s24) (.int .i64 (x : Nat)) (s204) (s205) (s206))
    (hZ : ∀ a', Fr5e a' (.slice na n nc) (.slice oa n oc) (s5) (.int .i64 (s : Nat)) (.slice (some ⟨b11, 0, Option.none⟩) n n) (s18) (s21) (s22) (s23) (.int .i64 (x : Nat)) (.int .i64 (x : Nat)) (s204) (s205) (s206) → Q .normal a' w) :
    Code.wp Try.prog (condT (tailC (tailC (innerC (headC (tailC (tailC (innerC (innerC (tailC (headC (tailC (innerC (headC (tailC (innerC (innerC (tailC (stm Try.f5.body 27))))))))))))))))))) Q a w := by
  have HZ := hide hZ
  clear hZ 
  refine fr_open5e (fun a => Code.wp Try.prog (condT (tailC (tailC (innerC (headC (tailC (tailC (innerC (innerC (tailC (headC (tailC (innerC (headC (tailC (innerC (innerC (tailC (stm Try.f5.body 27))))))))))))))))))) Q a w) a hF ?_
  intro u2 u3 u4 u6 u7 u9 u10 u12 u13 u14 u15 u16 u17 u19 u20 u25 u27 u28 u29 u30 u31 u32 u33 u34 u35 u36 u37 u38 u39 u40 u41 u42 u43 u44 u45 u46 u47 u48 u49 u50 u51 u52 u53 u54 u55 u56 u57 u58 u59 u60 u61 u62 u63 u64 u65 u66 u67 u68 u69 u70 u71 u72 u73 u74 u75 u76 u77 u78 u79 u80 u81 u82 u83 u84 u85 u86 u87 u88 u89 u90 u91 u92 u93 u94 u95 u96 u97 u98 u99 u100 u101 u102 u103 u104 u105 u106 u107 u108 u109 u110 u111 u112 u113 u114 u115 u116 u117 u118 u119 u120 u121 u122 u123 u124 u125 u126 u127 u128 u129 u130 u131 u132 u133 u134 u135 u136 u137 u138 u139 u140 u141 u142 u143 u144 u145 u146 u147 u148 u149 u150 u151 u152 u153 u154 u155 u156 u157 u158 u159 u160 u161 u162 u163 u164 u165 u166 u167 u168 u169 u170 u171 u172 u173 u174 u175 u176 u177 u178 u179 u180 u181 u182 u183 u184 u185 u186 u187 u188 u189 u190 u191 u192 u193 u194 u195 u196 u197 u198 u199 u200 u201 u202 u203 u207 u208 u209 u210 u211 u212 u213 u214 u215 u216 u217 u218 u219 u220 u221 u222 u223 u224 u225 u226 u227 u228 u229 u230 u231 u232 u233 u234 u235 u236 u237 u238 u239 u240
  dsimp only
  conv => arg 2; whnf
  go_wp2_with fail
  exact unhide HZ _ ⟨rfl, rfl, rfl, rfl, rfl, rfl, rfl, rfl, rfl, rfl, rfl, rfl, rfl, rfl, rfl, rfl⟩

set_option maxHeartbeats 8000000 in
set_option maxRecDepth 100000 in
theorem le65 (hk : k < N) (hN : N ≤ 1048576)
    (hF : Fr5e a (.slice na n nc) (.slice oa n oc) (s5) (.int .i64 (s : Nat)) (.slice (some ⟨b11, 0, Option.none⟩) n n) (s18) (s21) (s22) (s23) (s24) (s26) (.slice A N C) (.int .i64 (N : Nat)) (.int .i64 (k : Nat)))
    (hZ : ∀ a', Fr5e a' (.slice na n nc) (.slice oa n oc) (s5) (.int .i64 (s : Nat)) (.slice (some ⟨b11, 0, Option.none⟩) n n) (s18) (s21) (s22) (s23) (s24) (s26) (.slice A N C) (.int .i64 (N : Nat)) (.int .i64 ((k + 1 : Nat) : Int)) → Q .normal a' w) :
    Code.wp Try.prog (tailC (tailC (tailC (innerC (innerC (tailC (headC (tailC (innerC (headC (tailC (innerC (innerC (tailC (stm Try.f5.body 27))))))))))))))) Q a w := by
  have HZ := hide hZ
  clear hZ 
  refine fr_open5e (fun a => Code.wp Try.prog (tailC (tailC (tailC (innerC (innerC (tailC (headC (tailC (innerC (headC (tailC (innerC (innerC (tailC (stm Try.f5.body 27))))))))))))))) Q a w) a hF ?_
  intro u2 u3 u4 u6 u7 u9 u10 u12 u13 u14 u15 u16 u17 u19 u20 u25 u27 u28 u29 u30 u31 u32 u33 u34 u35 u36 u37 u38 u39 u40 u41 u42 u43 u44 u45 u46 u47 u48 u49 u50 u51 u52 u53 u54 u55 u56 u57 u58 u59 u60 u61 u62 u63 u64 u65 u66 u67 u68 u69 u70 u71 u72 u73 u74 u75 u76 u77 u78 u79 u80 u81 u82 u83 u84 u85 u86 u87 u88 u89 u90 u91 u92 u93 u94 u95 u96 u97 u98 u99 u100 u101 u102 u103 u104 u105 u106 u107 u108 u109 u110 u111 u112 u113 u114 u115 u116 u117 u118 u119 u120 u121 u122 u123 u124 u125 u126 u127 u128 u129 u130 u131 u132 u133 u134 u135 u136 u137 u138 u139 u140 u141 u142 u143 u144 u145 u146 u147 u148 u149 u150 u151 u152 u153 u154 u155 u156 u157 u158 u159 u160 u161 u162 u163 u164 u165 u166 u167 u168 u169 u170 u171 u172 u173 u174 u175 u176 u177 u178 u179 u180 u181 u182 u183 u184 u185 u186 u187 u188 u189 u190 u191 u192 u193 u194 u195 u196 u197 u198 u199 u200 u201 u202 u203 u207 u208 u209 u210 u211 u212 u213 u214 u215 u216 u217 u218 u219 u220 u221 u222 u223 u224 u225 u226 u227 u228 u229 u230 u231 u232 u233 u234 u235 u236 u237 u238 u239 u240
  dsimp only
  conv => arg 2; whnf
  go_wp2_with fail
  exact unhide HZ _ ⟨rfl, rfl, rfl, rfl, rfl, rfl, rfl, rfl, rfl, rfl, rfl, rfl, rfl, rfl, rfl, rfl⟩

set_option maxHeartbeats 8000000 in
set_option maxRecDepth 100000 in
theorem le66 
    (hF : Fr5e a (.slice na n nc) (.slice oa n oc) (s5) (.int .i64 (s : Nat)) (.slice (some ⟨b11, 0, Option.none⟩) n n) (s18) (s21) (s22) (s23) (.int .i64 (y : Nat)) (s26) (s204) (s205) (s206))
    (hZ : ∀ a', Fr5e a' (.slice na n nc) (.slice oa n oc) (s5) (.int .i64 (s : Nat)) (.slice (some ⟨b11, 0, Option.none⟩) n n) (s18) (s21) (s22) (s23) (.int .i64 (y : Nat)) (s26) (s204) (s205) (s206) → Q .normal a' w) :
    Code.wp Try.prog (headC (tailC (tailC (innerC (headC (tailC (innerC (innerC (tailC (stm Try.f5.body 27)))))))))) Q a w := by
  have HZ := hide hZ
  clear hZ 
  refine fr_open5e (fun a => Code.wp Try.prog (headC (tailC (tailC (innerC (headC (tailC (innerC (innerC (tailC (stm Try.f5.body 27)))))))))) Q a w) a hF ?_
  intro u2 u3 u4 u6 u7 u9 u10 u12 u13 u14 u15 u16 u17 u19 u20 u25 u27 u28 u29 u30 u31 u32 u33 u34 u35 u36 u37 u38 u39 u40 u41 u42 u43 u44 u45 u46 u47 u48 u49 u50 u51 u52 u53 u54 u55 u56 u57 u58 u59 u60 u61 u62 u63 u64 u65 u66 u67 u68 u69 u70 u71 u72 u73 u74 u75 u76 u77 u78 u79 u80 u81 u82 u83 u84 u85 u86 u87 u88 u89 u90 u91 u92 u93 u94 u95 u96 u97 u98 u99 u100 u101 u102 u103 u104 u105 u106 u107 u108 u109 u110 u111 u112 u113 u114 u115 u116 u117 u118 u119 u120 u121 u122 u123 u124 u125 u126 u127 u128 u129 u130 u131 u132 u133 u134 u135 u136 u137 u138 u139 u140 u141 u142 u143 u144 u145 u146 u147 u148 u149 u150 u151 u152 u153 u154 u155 u156 u157 u158 u159 u160 u161 u162 u163 u164 u165 u166 u167 u168 u169 u170 u171 u172 u173 u174 u175 u176 u177 u178 u179 u180 u181 u182 u183 u184 u185 u186 u187 u188 u189 u190 u191 u192 u193 u194 u195 u196 u197 u198 u199 u200 u201 u202 u203 u207 u208 u209 u210 u211 u212 u213 u214 u215 u216 u217 u218 u219 u220 u221 u222 u223 u224 u225 u226 u227 u228 u229 u230 u231 u232 u233 u234 u235 u236 u237 u238 u239 u240
  dsimp only
  conv => arg 2; whnf
  go_wp2_with fail
  exact unhide HZ _ ⟨rfl, rfl, rfl, rfl, rfl, rfl, rfl, rfl, rfl, rfl, rfl, rfl, rfl, rfl, rfl, rfl⟩

set_option maxHeartbeats 8000000 in
set_option maxRecDepth 100000 in
theorem le68 (hy : y < n) (hc : ∃ b off, na = some ⟨b, off, Option.none⟩ ∧ w.cell? ⟨b, off + y, Option.none⟩ = some (.int .i64 z)) (hrun : (Builtin.append_ #[22, 22] 22 #[.slice (some ⟨b21, 0, Option.none⟩) m21 c21, .slice (some ⟨w.heap.size, 0, Option.none⟩) 1 1]).run Try.prog (w.alloc (.cells #[.int .i64 z] 3)) = .ok (.slice (some ⟨b21, 0, Option.none⟩) (m21 + 1) c21) w')
    (hF : Fr5e a (.slice na n nc) (.slice oa n oc) (s5) (.int .i64 (s : Nat)) (.slice (some ⟨b11, 0, Option.none⟩) n n) (s18) (.slice (some ⟨b21, 0, Option.none⟩) m21 c21) (s22) (s23) (.int .i64 (y : Nat)) (s26) (s204) (s205) (s206))
    (hZ : ∀ a', Fr5e a' (.slice na n nc) (.slice oa n oc) (s5) (.int .i64 (s : Nat)) (.slice (some ⟨b11, 0, Option.none⟩) n n) (s18) (.slice (some ⟨b21, 0, Option.none⟩) (m21 + 1) c21) (s22) (s23) (.int .i64 (y : Nat)) (s26) (s204) (s205) (s206) → Q .normal a' w') :
    Code.wp Try.prog (headC (tailC (tailC (tailC (innerC (headC (tailC (innerC (innerC (tailC (stm Try.f5.body 27))))))))))) Q a w := by
  have HZ := hide hZ
  obtain ⟨b, off, rfl, hc⟩ := hc
  have ly : ((y : Nat) : Int) < (n : Int) := by omega
  clear hZ 
  refine fr_open5e (fun a => Code.wp Try.prog (headC (tailC (tailC (tailC (innerC (headC (tailC (innerC (innerC (tailC (stm Try.f5.body 27))))))))))) Q a w) a hF ?_
  intro u2 u3 u4 u6 u7 u9 u10 u12 u13 u14 u15 u16 u17 u19 u20 u25 u27 u28 u29 u30 u31 u32 u33 u34 u35 u36 u37 u38 u39 u40 u41 u42 u43 u44 u45 u46 u47 u48 u49 u50 u51 u52 u53 u54 u55 u56 u57 u58 u59 u60 u61 u62 u63 u64 u65 u66 u67 u68 u69 u70 u71 u72 u73 u74 u75 u76 u77 u78 u79 u80 u81 u82 u83 u84 u85 u86 u87 u88 u89 u90 u91 u92 u93 u94 u95 u96 u97 u98 u99 u100 u101 u102 u103 u104 u105 u106 u107 u108 u109 u110 u111 u112 u113 u114 u115 u116 u117 u118 u119 u120 u121 u122 u123 u124 u125 u126 u127 u128 u129 u130 u131 u132 u133 u134 u135 u136 u137 u138 u139 u140 u141 u142 u143 u144 u145 u146 u147 u148 u149 u150 u151 u152 u153 u154 u155 u156 u157 u158 u159 u160 u161 u162 u163 u164 u165 u166 u167 u168 u169 u170 u171 u172 u173 u174 u175 u176 u177 u178 u179 u180 u181 u182 u183 u184 u185 u186 u187 u188 u189 u190 u191 u192 u193 u194 u195 u196 u197 u198 u199 u200 u201 u202 u203 u207 u208 u209 u210 u211 u212 u213 u214 u215 u216 u217 u218 u219 u220 u221 u222 u223 u224 u225 u226 u227 u228 u229 u230 u231 u232 u233 u234 u235 u236 u237 u238 u239 u240
  dsimp only
  conv => arg 2; whnf
  go_wp2_with (at_builtin; refine Lib.wpList_append_run _ rfl _ _ _ _ rfl _ _ rfl rfl _ _ hrun ?_)
  exact unhide HZ _ ⟨rfl, rfl, rfl, rfl, rfl, rfl, rfl, rfl, rfl, rfl, rfl, rfl, rfl, rfl, rfl, rfl⟩

set_option maxHeartbeats 8000000 in
set_option maxRecDepth 100000 in
theorem le69 
    (hF : Fr5e a (.slice na n nc) (.slice oa n oc) (s5) (.int .i64 (s : Nat)) (.slice (some ⟨b11, 0, Option.none⟩) n n) (s18) (s21) (s22) (s23) (.int .i64 (y : Nat)) (s26) (s204) (s205) (s206))
    (hZ : ∀ a', Fr5e a' (.slice na n nc) (.slice oa n oc) (s5) (.int .i64 (s : Nat)) (.slice (some ⟨b11, 0, Option.none⟩) n n) (s18) (s21) (.int .i64 (y : Nat)) (s23) (.int .i64 (y : Nat)) (s26) (s204) (s205) (s206) → Q .normal a' w) :
    Code.wp Try.prog (tailC (tailC (tailC (tailC (innerC (headC (tailC (innerC (innerC (tailC (stm Try.f5.body 27))))))))))) Q a w := by
  have HZ := hide hZ
  clear hZ 
  refine fr_open5e (fun a => Code.wp Try.prog (tailC (tailC (tailC (tailC (innerC (headC (tailC (innerC (innerC (tailC (stm Try.f5.body 27))))))))))) Q a w) a hF ?_
  intro u2 u3 u4 u6 u7 u9 u10 u12 u13 u14 u15 u16 u17 u19 u20 u25 u27 u28 u29 u30 u31 u32 u33 u34 u35 u36 u37 u38 u39 u40 u41 u42 u43 u44 u45 u46 u47 u48 u49 u50 u51 u52 u53 u54 u55 u56 u57 u58 u59 u60 u61 u62 u63 u64 u65 u66 u67 u68 u69 u70 u71 u72 u73 u74 u75 u76 u77 u78 u79 u80 u81 u82 u83 u84 u85 u86 u87 u88 u89 u90 u91 u92 u93 u94 u95 u96 u97 u98 u99 u100 u101 u102 u103 u104 u105 u106 u107 u108 u109 u110 u111 u112 u113 u114 u115 u116 u117 u118 u119 u120 u121 u122 u123 u124 u125 u126 u127 u128 u129 u130 u131 u132 u133 u134 u135 u136 u137 u138 u139 u140 u141 u142 u143 u144 u145 u146 u147 u148 u149 u150 u151 u152 u153 u154 u155 u156 u157 u158 u159 u160 u161 u162 u163 u164 u165 u166 u167 u168 u169 u170 u171 u172 u173 u174 u175 u176 u177 u178 u179 u180 u181 u182 u183 u184 u185 u186 u187 u188 u189 u190 u191 u192 u193 u194 u195 u196 u197 u198 u199 u200 u201 u202 u203 u207 u208 u209 u210 u211 u212 u213 u214 u215 u216 u217 u218 u219 u220 u221 u222 u223 u224 u225 u226 u227 u228 u229 u230 u231 u232 u233 u234 u235 u236 u237 u238 u239 u240
  dsimp only
  conv => arg 2; whnf
  go_wp2_with fail
  exact unhide HZ _ ⟨rfl, rfl, rfl, rfl, rfl, rfl, rfl, rfl, rfl, rfl, rfl, rfl, rfl, rfl, rfl, rfl⟩

set_option maxHeartbeats 8000000 in
set_option maxRecDepth 100000 in
theorem le58 (hm : m + 1 ≤ 65536)
    (hF : Fr5e a (.slice na n nc) (.slice oa n oc) (s5) (.int .i64 (s : Nat)) (.slice (some ⟨b11, 0, Option.none⟩) n n) (s18) (s21) (s22) (.int .i64 ((m + 1 : Nat) : Int)) (s24) (s26) (s204) (s205) (s206))
    (hZ : ∀ a', Fr5e a' (.slice na n nc) (.slice oa n oc) (s5) (.int .i64 (s : Nat)) (.slice (some ⟨b11, 0, Option.none⟩) n n) (s18) (s21) (s22) (.int .i64 (m : Nat)) (s24) (s26) (s204) (s205) (s206) → Q .normal a' w) :
    Code.wp Try.prog (tailC (tailC (innerC (innerC (tailC (stm Try.f5.body 27)))))) Q a w := by
  have HZ := hide hZ
  clear hZ 
  refine fr_open5e (fun a => Code.wp Try.prog (tailC (tailC (innerC (innerC (tailC (stm Try.f5.body 27)))))) Q a w) a hF ?_
  intro u2 u3 u4 u6 u7 u9 u10 u12 u13 u14 u15 u16 u17 u19 u20 u25 u27 u28 u29 u30 u31 u32 u33 u34 u35 u36 u37 u38 u39 u40 u41 u42 u43 u44 u45 u46 u47 u48 u49 u50 u51 u52 u53 u54 u55 u56 u57 u58 u59 u60 u61 u62 u63 u64 u65 u66 u67 u68 u69 u70 u71 u72 u73 u74 u75 u76 u77 u78 u79 u80 u81 u82 u83 u84 u85 u86 u87 u88 u89 u90 u91 u92 u93 u94 u95 u96 u97 u98 u99 u100 u101 u102 u103 u104 u105 u106 u107 u108 u109 u110 u111 u112 u113 u114 u115 u116 u117 u118 u119 u120 u121 u122 u123 u124 u125 u126 u127 u128 u129 u130 u131 u132 u133 u134 u135 u136 u137 u138 u139 u140 u141 u142 u143 u144 u145 u146 u147 u148 u149 u150 u151 u152 u153 u154 u155 u156 u157 u158 u159 u160 u161 u162 u163 u164 u165 u166 u167 u168 u169 u170 u171 u172 u173 u174 u175 u176 u177 u178 u179 u180 u181 u182 u183 u184 u185 u186 u187 u188 u189 u190 u191 u192 u193 u194 u195 u196 u197 u198 u199 u200 u201 u202 u203 u207 u208 u209 u210 u211 u212 u213 u214 u215 u216 u217 u218 u219 u220 u221 u222 u223 u224 u225 u226 u227 u228 u229 u230 u231 u232 u233 u234 u235 u236 u237 u238 u239 u240
  dsimp only
  conv => arg 2; whnf
  go_wp2_with fail
  exact unhide HZ _ ⟨rfl, rfl, rfl, rfl, rfl, rfl, rfl, rfl, rfl, rfl, rfl, rfl, rfl, rfl, rfl, rfl⟩

set_option maxHeartbeats 8000000 in
set_option maxRecDepth 100000 in
theorem le70 {va : Option Addr} {cc : Nat} (R : World → Prop) (hcall : Calls Try.prog 23 #[.slice va m cc, .slice (some ⟨b21, 0, Option.none⟩) m21 c21] w (fun e w' => e = .returned (.bool true) ∧ R w'))
    (hF : Fr5e a (.slice na n nc) (.slice oa n oc) (.slice va m cc) (.int .i64 (s : Nat)) (.slice (some ⟨b11, 0, Option.none⟩) n n) (s18) (.slice (some ⟨b21, 0, Option.none⟩) m21 c21) (s22) (s23) (s24) (s26) (s204) (s205) (s206))
    (hR : ∀ a' w', a'.defers = [] → a'.tmps.getD 4 undef = .bool true → R w' → Q .ret a' w') :
    Code.wp Try.prog (rst Try.f5.body 28) Q a w := by
  have HR := hide hR
  clear hR
  refine fr_open5e (fun a => Code.wp Try.prog (rst Try.f5.body 28) Q a w) a hF ?_
  intro u2 u3 u4 u6 u7 u9 u10 u12 u13 u14 u15 u16 u17 u19 u20 u25 u27 u28 u29 u30 u31 u32 u33 u34 u35 u36 u37 u38 u39 u40 u41 u42 u43 u44 u45 u46 u47 u48 u49 u50 u51 u52 u53 u54 u55 u56 u57 u58 u59 u60 u61 u62 u63 u64 u65 u66 u67 u68 u69 u70 u71 u72 u73 u74 u75 u76 u77 u78 u79 u80 u81 u82 u83 u84 u85 u86 u87 u88 u89 u90 u91 u92 u93 u94 u95 u96 u97 u98 u99 u100 u101 u102 u103 u104 u105 u106 u107 u108 u109 u110 u111 u112 u113 u114 u115 u116 u117 u118 u119 u120 u121 u122 u123 u124 u125 u126 u127 u128 u129 u130 u131 u132 u133 u134 u135 u136 u137 u138 u139 u140 u141 u142 u143 u144 u145 u146 u147 u148 u149 u150 u151 u152 u153 u154 u155 u156 u157 u158 u159 u160 u161 u162 u163 u164 u165 u166 u167 u168 u169 u170 u171 u172 u173 u174 u175 u176 u177 u178 u179 u180 u181 u182 u183 u184 u185 u186 u187 u188 u189 u190 u191 u192 u193 u194 u195 u196 u197 u198 u199 u200 u201 u202 u203 u207 u208 u209 u210 u211 u212 u213 u214 u215 u216 u217 u218 u219 u220 u221 u222 u223 u224 u225 u226 u227 u228 u229 u230 u231 u232 u233 u234 u235 u236 u237 u238 u239 u240
  dsimp only
  conv => arg 2; whnf
  go_wp2_with fail
  refine hcall.mono ?_
  rintro e w1 ⟨rfl, hr⟩
  have HQ := hide hr
  clear hr hcall
  go_wp2_with fail
  exact unhide HR _ _ rfl rfl (unhide HQ)

end Go.Proofs.Qxb6602460a
