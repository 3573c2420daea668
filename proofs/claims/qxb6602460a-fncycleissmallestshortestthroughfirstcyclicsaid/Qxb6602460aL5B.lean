import Derived.Test.Qxb6602460aL5F
namespace Go.Proofs.Qxb6602460a
open Go.RowKit Go.Maps Go.Own

variable {n nn s b7 b11 b13 b21 m13 m21 c21 : Nat} {na oa ra : Option Addr} {nc oc rc : Nat} {w w' : World} {Q : Exit → Act → World → Prop} {a : Act} {s0 s1 s5 s6 s7 s8 s9 s10 s11 s13 s14 s15 s17 s18 s20 s21 s22 s23 s24 s26 s126 s127 s128 s153 s154 s155 s204 s205 s206 : Value} {A : Option Addr} {N C j k x v y m L h : Nat} {p z : Int}

set_option maxHeartbeats 8000000 in
set_option maxRecDepth 100000 in
theorem lb0 
    (hF : Fr5b a (.slice na nn nc) (.slice oa n oc) (s5) (s6) (s7) (s8) (s9))
    (hZ : ∀ a', Fr5b a' (.slice na nn nc) (.slice oa n oc) (s5) (s6) (s7) (s8) (s9) → Q .normal a' w) :
    Code.wp Try.prog (stm Try.f5.body 0) Q a w := by
  have HZ := hide hZ
  clear hZ 
  refine fr_open5b (fun a => Code.wp Try.prog (stm Try.f5.body 0) Q a w) a hF ?_
  intro u2 u3 u4 u10 u11 u12 u13 u14 u15 u16 u17 u18 u19 u20 u21 u22 u23 u24 u25 u26 u27 u28 u29 u30 u31 u32 u33 u34 u35 u36 u37 u38 u39 u40 u41 u42 u43 u44 u45 u46 u47 u48 u49 u50 u51 u52 u53 u54 u55 u56 u57 u58 u59 u60 u61 u62 u63 u64 u65 u66 u67 u68 u69 u70 u71 u72 u73 u74 u75 u76 u77 u78 u79 u80 u81 u82 u83 u84 u85 u86 u87 u88 u89 u90 u91 u92 u93 u94 u95 u96 u97 u98 u99 u100 u101 u102 u103 u104 u105 u106 u107 u108 u109 u110 u111 u112 u113 u114 u115 u116 u117 u118 u119 u120 u121 u122 u123 u124 u125 u126 u127 u128 u129 u130 u131 u132 u133 u134 u135 u136 u137 u138 u139 u140 u141 u142 u143 u144 u145 u146 u147 u148 u149 u150 u151 u152 u153 u154 u155 u156 u157 u158 u159 u160 u161 u162 u163 u164 u165 u166 u167 u168 u169 u170 u171 u172 u173 u174 u175 u176 u177 u178 u179 u180 u181 u182 u183 u184 u185 u186 u187 u188 u189 u190 u191 u192 u193 u194 u195 u196 u197 u198 u199 u200 u201 u202 u203 u204 u205 u206 u207 u208 u209 u210 u211 u212 u213 u214 u215 u216 u217 u218 u219 u220 u221 u222 u223 u224 u225 u226 u227 u228 u229 u230 u231 u232 u233 u234 u235 u236 u237 u238 u239 u240
  dsimp only
  conv => arg 2; whnf
  go_wp2_with fail
  exact unhide HZ _ ⟨rfl, rfl, rfl, rfl, rfl, rfl, rfl, rfl, rfl⟩

set_option maxHeartbeats 8000000 in
set_option maxRecDepth 100000 in
theorem lb1 {P : Prop} (hcall : Calls Try.prog 18 #[.slice na nn nc, .slice oa n oc] w (Tells P w))
    (hF : Fr5b a (.slice na nn nc) (.slice oa n oc) (s5) (s6) (s7) (s8) (s9))
    (hR : ∀ a' w', a'.defers = [] → a'.tmps.getD 4 undef = .bool true → (∃ j, w' = w.drewN j) → Q .ret a' w')
    (hZ : ∀ a' j, P → Fr5b a' (.slice na nn nc) (.slice oa n oc) (s5) (s6) (s7) (s8) (s9) → Q .normal a' (w.drewN j)) :
    Code.wp Try.prog (stm Try.f5.body 1) Q a w := by
  have HZ := hide hZ
  have HR := hide hR
  clear hZ hR
  refine fr_open5b (fun a => Code.wp Try.prog (stm Try.f5.body 1) Q a w) a hF ?_
  intro u2 u3 u4 u10 u11 u12 u13 u14 u15 u16 u17 u18 u19 u20 u21 u22 u23 u24 u25 u26 u27 u28 u29 u30 u31 u32 u33 u34 u35 u36 u37 u38 u39 u40 u41 u42 u43 u44 u45 u46 u47 u48 u49 u50 u51 u52 u53 u54 u55 u56 u57 u58 u59 u60 u61 u62 u63 u64 u65 u66 u67 u68 u69 u70 u71 u72 u73 u74 u75 u76 u77 u78 u79 u80 u81 u82 u83 u84 u85 u86 u87 u88 u89 u90 u91 u92 u93 u94 u95 u96 u97 u98 u99 u100 u101 u102 u103 u104 u105 u106 u107 u108 u109 u110 u111 u112 u113 u114 u115 u116 u117 u118 u119 u120 u121 u122 u123 u124 u125 u126 u127 u128 u129 u130 u131 u132 u133 u134 u135 u136 u137 u138 u139 u140 u141 u142 u143 u144 u145 u146 u147 u148 u149 u150 u151 u152 u153 u154 u155 u156 u157 u158 u159 u160 u161 u162 u163 u164 u165 u166 u167 u168 u169 u170 u171 u172 u173 u174 u175 u176 u177 u178 u179 u180 u181 u182 u183 u184 u185 u186 u187 u188 u189 u190 u191 u192 u193 u194 u195 u196 u197 u198 u199 u200 u201 u202 u203 u204 u205 u206 u207 u208 u209 u210 u211 u212 u213 u214 u215 u216 u217 u218 u219 u220 u221 u222 u223 u224 u225 u226 u227 u228 u229 u230 u231 u232 u233 u234 u235 u236 u237 u238 u239 u240
  dsimp only
  conv => arg 2; whnf
  go_wp2_with fail
  refine hcall.mono ?_
  rintro e w1 ⟨b, rfl, hb, j, rfl⟩
  have HB := hide hb
  clear hb
  cases b
  · go_wp2_with fail
    exact unhide HR _ _ rfl rfl ⟨_, rfl⟩
  · go_wp2_with fail
    exact unhide HZ _ _ (unhide HB (by trivial)) ⟨rfl, rfl, rfl, rfl, rfl, rfl, rfl, rfl, rfl⟩

set_option maxHeartbeats 8000000 in
set_option maxRecDepth 100000 in
theorem lb3 (hF : Fr5b a (.slice na nn nc) (.slice oa n oc) (s5) (s6) (s7) (s8) (s9))
    (hR : ∀ a' w', a'.defers = [] → a'.tmps.getD 4 undef = .bool true → (∃ j, w' = w.drewN j) → Q .ret a' w')
    (hZ : ∀ a', nn ≤ 65536 → n ≤ 65536 → Fr5b a' (.slice na nn nc) (.slice oa n oc) (s5) (s6) (s7) (s8) (s9) → Q .normal a' w) :
    Code.wp Try.prog (stm Try.f5.body 2) Q a w := by
  by_cases h1 : nn ≤ 65536
  · have t1 : ¬ (65536 : Int) < (nn : Int) := by omega
    by_cases h2 : n ≤ 65536
    · have t2 : ¬ (65536 : Int) < (n : Int) := by omega
      have HZ := hide (fun a' => hZ a' h1 h2)
      clear hZ hR h1 h2
      refine fr_open5b (fun a => Code.wp Try.prog (stm Try.f5.body 2) Q a w) a hF ?_
      intro u2 u3 u4 u10 u11 u12 u13 u14 u15 u16 u17 u18 u19 u20 u21 u22 u23 u24 u25 u26 u27 u28 u29 u30 u31 u32 u33 u34 u35 u36 u37 u38 u39 u40 u41 u42 u43 u44 u45 u46 u47 u48 u49 u50 u51 u52 u53 u54 u55 u56 u57 u58 u59 u60 u61 u62 u63 u64 u65 u66 u67 u68 u69 u70 u71 u72 u73 u74 u75 u76 u77 u78 u79 u80 u81 u82 u83 u84 u85 u86 u87 u88 u89 u90 u91 u92 u93 u94 u95 u96 u97 u98 u99 u100 u101 u102 u103 u104 u105 u106 u107 u108 u109 u110 u111 u112 u113 u114 u115 u116 u117 u118 u119 u120 u121 u122 u123 u124 u125 u126 u127 u128 u129 u130 u131 u132 u133 u134 u135 u136 u137 u138 u139 u140 u141 u142 u143 u144 u145 u146 u147 u148 u149 u150 u151 u152 u153 u154 u155 u156 u157 u158 u159 u160 u161 u162 u163 u164 u165 u166 u167 u168 u169 u170 u171 u172 u173 u174 u175 u176 u177 u178 u179 u180 u181 u182 u183 u184 u185 u186 u187 u188 u189 u190 u191 u192 u193 u194 u195 u196 u197 u198 u199 u200 u201 u202 u203 u204 u205 u206 u207 u208 u209 u210 u211 u212 u213 u214 u215 u216 u217 u218 u219 u220 u221 u222 u223 u224 u225 u226 u227 u228 u229 u230 u231 u232 u233 u234 u235 u236 u237 u238 u239 u240
      dsimp only
      conv => arg 2; whnf
      go_wp2_with fail
      exact unhide HZ _ ⟨rfl, rfl, rfl, rfl, rfl, rfl, rfl, rfl, rfl⟩
    · have t2 : (65536 : Int) < (n : Int) := by omega
      have HR := hide hR
      clear hZ hR h1 h2
      refine fr_open5b (fun a => Code.wp Try.prog (stm Try.f5.body 2) Q a w) a hF ?_
      intro u2 u3 u4 u10 u11 u12 u13 u14 u15 u16 u17 u18 u19 u20 u21 u22 u23 u24 u25 u26 u27 u28 u29 u30 u31 u32 u33 u34 u35 u36 u37 u38 u39 u40 u41 u42 u43 u44 u45 u46 u47 u48 u49 u50 u51 u52 u53 u54 u55 u56 u57 u58 u59 u60 u61 u62 u63 u64 u65 u66 u67 u68 u69 u70 u71 u72 u73 u74 u75 u76 u77 u78 u79 u80 u81 u82 u83 u84 u85 u86 u87 u88 u89 u90 u91 u92 u93 u94 u95 u96 u97 u98 u99 u100 u101 u102 u103 u104 u105 u106 u107 u108 u109 u110 u111 u112 u113 u114 u115 u116 u117 u118 u119 u120 u121 u122 u123 u124 u125 u126 u127 u128 u129 u130 u131 u132 u133 u134 u135 u136 u137 u138 u139 u140 u141 u142 u143 u144 u145 u146 u147 u148 u149 u150 u151 u152 u153 u154 u155 u156 u157 u158 u159 u160 u161 u162 u163 u164 u165 u166 u167 u168 u169 u170 u171 u172 u173 u174 u175 u176 u177 u178 u179 u180 u181 u182 u183 u184 u185 u186 u187 u188 u189 u190 u191 u192 u193 u194 u195 u196 u197 u198 u199 u200 u201 u202 u203 u204 u205 u206 u207 u208 u209 u210 u211 u212 u213 u214 u215 u216 u217 u218 u219 u220 u221 u222 u223 u224 u225 u226 u227 u228 u229 u230 u231 u232 u233 u234 u235 u236 u237 u238 u239 u240
      dsimp only
      conv => arg 2; whnf
      go_wp2_with fail
      exact unhide HR _ _ rfl rfl ⟨0, rfl⟩
  · have t1 : (65536 : Int) < (nn : Int) := by omega
    have HR := hide hR
    clear hZ hR h1
    refine fr_open5b (fun a => Code.wp Try.prog (stm Try.f5.body 2) Q a w) a hF ?_
    intro u2 u3 u4 u10 u11 u12 u13 u14 u15 u16 u17 u18 u19 u20 u21 u22 u23 u24 u25 u26 u27 u28 u29 u30 u31 u32 u33 u34 u35 u36 u37 u38 u39 u40 u41 u42 u43 u44 u45 u46 u47 u48 u49 u50 u51 u52 u53 u54 u55 u56 u57 u58 u59 u60 u61 u62 u63 u64 u65 u66 u67 u68 u69 u70 u71 u72 u73 u74 u75 u76 u77 u78 u79 u80 u81 u82 u83 u84 u85 u86 u87 u88 u89 u90 u91 u92 u93 u94 u95 u96 u97 u98 u99 u100 u101 u102 u103 u104 u105 u106 u107 u108 u109 u110 u111 u112 u113 u114 u115 u116 u117 u118 u119 u120 u121 u122 u123 u124 u125 u126 u127 u128 u129 u130 u131 u132 u133 u134 u135 u136 u137 u138 u139 u140 u141 u142 u143 u144 u145 u146 u147 u148 u149 u150 u151 u152 u153 u154 u155 u156 u157 u158 u159 u160 u161 u162 u163 u164 u165 u166 u167 u168 u169 u170 u171 u172 u173 u174 u175 u176 u177 u178 u179 u180 u181 u182 u183 u184 u185 u186 u187 u188 u189 u190 u191 u192 u193 u194 u195 u196 u197 u198 u199 u200 u201 u202 u203 u204 u205 u206 u207 u208 u209 u210 u211 u212 u213 u214 u215 u216 u217 u218 u219 u220 u221 u222 u223 u224 u225 u226 u227 u228 u229 u230 u231 u232 u233 u234 u235 u236 u237 u238 u239 u240
    dsimp only
    conv => arg 2; whnf
    go_wp2_with fail
    exact unhide HR _ _ rfl rfl ⟨0, rfl⟩

set_option maxHeartbeats 8000000 in
set_option maxRecDepth 100000 in
theorem lb5 {P : Prop} (hcall : Calls Try.prog 10 #[.slice na nn nc, .slice oa n oc] w (Tells P w))
    (hF : Fr5b a (.slice na nn nc) (.slice oa n oc) (s5) (s6) (s7) (s8) (s9))
    (hR : ∀ a' w', a'.defers = [] → a'.tmps.getD 4 undef = .bool true → (∃ j, w' = w.drewN j) → Q .ret a' w')
    (hZ : ∀ a' j, P → Fr5b a' (.slice na nn nc) (.slice oa n oc) (s5) (s6) (s7) (s8) (s9) → Q .normal a' (w.drewN j)) :
    Code.wp Try.prog (stm Try.f5.body 3) Q a w := by
  have HZ := hide hZ
  have HR := hide hR
  clear hZ hR
  refine fr_open5b (fun a => Code.wp Try.prog (stm Try.f5.body 3) Q a w) a hF ?_
  intro u2 u3 u4 u10 u11 u12 u13 u14 u15 u16 u17 u18 u19 u20 u21 u22 u23 u24 u25 u26 u27 u28 u29 u30 u31 u32 u33 u34 u35 u36 u37 u38 u39 u40 u41 u42 u43 u44 u45 u46 u47 u48 u49 u50 u51 u52 u53 u54 u55 u56 u57 u58 u59 u60 u61 u62 u63 u64 u65 u66 u67 u68 u69 u70 u71 u72 u73 u74 u75 u76 u77 u78 u79 u80 u81 u82 u83 u84 u85 u86 u87 u88 u89 u90 u91 u92 u93 u94 u95 u96 u97 u98 u99 u100 u101 u102 u103 u104 u105 u106 u107 u108 u109 u110 u111 u112 u113 u114 u115 u116 u117 u118 u119 u120 u121 u122 u123 u124 u125 u126 u127 u128 u129 u130 u131 u132 u133 u134 u135 u136 u137 u138 u139 u140 u141 u142 u143 u144 u145 u146 u147 u148 u149 u150 u151 u152 u153 u154 u155 u156 u157 u158 u159 u160 u161 u162 u163 u164 u165 u166 u167 u168 u169 u170 u171 u172 u173 u174 u175 u176 u177 u178 u179 u180 u181 u182 u183 u184 u185 u186 u187 u188 u189 u190 u191 u192 u193 u194 u195 u196 u197 u198 u199 u200 u201 u202 u203 u204 u205 u206 u207 u208 u209 u210 u211 u212 u213 u214 u215 u216 u217 u218 u219 u220 u221 u222 u223 u224 u225 u226 u227 u228 u229 u230 u231 u232 u233 u234 u235 u236 u237 u238 u239 u240
  dsimp only
  conv => arg 2; whnf
  go_wp2_with fail
  refine hcall.mono ?_
  rintro e w1 ⟨b, rfl, hb, j, rfl⟩
  have HB := hide hb
  clear hb
  cases b
  · go_wp2_with fail
    exact unhide HR _ _ rfl rfl ⟨_, rfl⟩
  · go_wp2_with fail
    exact unhide HZ _ _ (unhide HB (by trivial)) ⟨rfl, rfl, rfl, rfl, rfl, rfl, rfl, rfl, rfl⟩

set_option maxHeartbeats 8000000 in
set_option maxRecDepth 100000 in
theorem lb7 {P : Prop} (hcall : Calls Try.prog 11 #[.slice oa n oc] w (Tells P w)) (hF : Fr5b a (.slice na nn nc) (.slice oa n oc) (s5) (s6) (s7) (s8) (s9))
    (hR : ∀ a' w', a'.defers = [] → a'.tmps.getD 4 undef = .bool true → (∃ j, w' = w.drewN j) → Q .ret a' w')
    (hZ : ∀ a' j, nn = n → P → Fr5b a' (.slice na nn nc) (.slice oa n oc) (s5) (s6) (s7) (s8) (s9) → Q .normal a' (w.drewN j)) :
    Code.wp Try.prog (stm Try.f5.body 4) Q a w := by
  by_cases h1 : nn = n
  · subst h1
    have HZ := hide hZ
    have HR := hide hR
    clear hZ hR
    refine fr_open5b (fun a => Code.wp Try.prog (stm Try.f5.body 4) Q a w) a hF ?_
    intro u2 u3 u4 u10 u11 u12 u13 u14 u15 u16 u17 u18 u19 u20 u21 u22 u23 u24 u25 u26 u27 u28 u29 u30 u31 u32 u33 u34 u35 u36 u37 u38 u39 u40 u41 u42 u43 u44 u45 u46 u47 u48 u49 u50 u51 u52 u53 u54 u55 u56 u57 u58 u59 u60 u61 u62 u63 u64 u65 u66 u67 u68 u69 u70 u71 u72 u73 u74 u75 u76 u77 u78 u79 u80 u81 u82 u83 u84 u85 u86 u87 u88 u89 u90 u91 u92 u93 u94 u95 u96 u97 u98 u99 u100 u101 u102 u103 u104 u105 u106 u107 u108 u109 u110 u111 u112 u113 u114 u115 u116 u117 u118 u119 u120 u121 u122 u123 u124 u125 u126 u127 u128 u129 u130 u131 u132 u133 u134 u135 u136 u137 u138 u139 u140 u141 u142 u143 u144 u145 u146 u147 u148 u149 u150 u151 u152 u153 u154 u155 u156 u157 u158 u159 u160 u161 u162 u163 u164 u165 u166 u167 u168 u169 u170 u171 u172 u173 u174 u175 u176 u177 u178 u179 u180 u181 u182 u183 u184 u185 u186 u187 u188 u189 u190 u191 u192 u193 u194 u195 u196 u197 u198 u199 u200 u201 u202 u203 u204 u205 u206 u207 u208 u209 u210 u211 u212 u213 u214 u215 u216 u217 u218 u219 u220 u221 u222 u223 u224 u225 u226 u227 u228 u229 u230 u231 u232 u233 u234 u235 u236 u237 u238 u239 u240
    dsimp only
    conv => arg 2; whnf
    go_wp2_with fail
    refine hcall.mono ?_
    rintro e w1 ⟨b, rfl, hb, j, rfl⟩
    have HB := hide hb
    clear hb
    cases b
    · go_wp2_with fail
      exact unhide HR _ _ rfl rfl ⟨_, rfl⟩
    · go_wp2_with fail
      exact unhide HZ _ _ (by trivial) (unhide HB (by trivial)) ⟨rfl, rfl, rfl, rfl, rfl, rfl, rfl, rfl, rfl⟩
  · have t1 : ¬ (nn : Int) = (n : Int) := by omega
    have HR := hide hR
    clear hZ hR h1
    refine fr_open5b (fun a => Code.wp Try.prog (stm Try.f5.body 4) Q a w) a hF ?_
    intro u2 u3 u4 u10 u11 u12 u13 u14 u15 u16 u17 u18 u19 u20 u21 u22 u23 u24 u25 u26 u27 u28 u29 u30 u31 u32 u33 u34 u35 u36 u37 u38 u39 u40 u41 u42 u43 u44 u45 u46 u47 u48 u49 u50 u51 u52 u53 u54 u55 u56 u57 u58 u59 u60 u61 u62 u63 u64 u65 u66 u67 u68 u69 u70 u71 u72 u73 u74 u75 u76 u77 u78 u79 u80 u81 u82 u83 u84 u85 u86 u87 u88 u89 u90 u91 u92 u93 u94 u95 u96 u97 u98 u99 u100 u101 u102 u103 u104 u105 u106 u107 u108 u109 u110 u111 u112 u113 u114 u115 u116 u117 u118 u119 u120 u121 u122 u123 u124 u125 u126 u127 u128 u129 u130 u131 u132 u133 u134 u135 u136 u137 u138 u139 u140 u141 u142 u143 u144 u145 u146 u147 u148 u149 u150 u151 u152 u153 u154 u155 u156 u157 u158 u159 u160 u161 u162 u163 u164 u165 u166 u167 u168 u169 u170 u171 u172 u173 u174 u175 u176 u177 u178 u179 u180 u181 u182 u183 u184 u185 u186 u187 u188 u189 u190 u191 u192 u193 u194 u195 u196 u197 u198 u199 u200 u201 u202 u203 u204 u205 u206 u207 u208 u209 u210 u211 u212 u213 u214 u215 u216 u217 u218 u219 u220 u221 u222 u223 u224 u225 u226 u227 u228 u229 u230 u231 u232 u233 u234 u235 u236 u237 u238 u239 u240
    dsimp only
    conv => arg 2; whnf
    go_wp2_with fail
    exact unhide HR _ _ rfl rfl ⟨0, rfl⟩

set_option maxHeartbeats 8000000 in
set_option maxRecDepth 100000 in
theorem lb9 {P1 P2 P3 : Prop} (hc1 : Calls Try.prog 19 #[.slice na n nc] w (Tells P1 w)) (hc2 : ∀ j, Calls Try.prog 20 #[.slice oa n oc] (w.drewN j) (Tells P2 (w.drewN j))) (hc3 : ∀ j, Calls Try.prog 21 #[.slice oa n oc] (w.drewN j) (Tells P3 (w.drewN j))) (hF : Fr5b a (.slice na n nc) (.slice oa n oc) (s5) (s6) (s7) (s8) (s9))
    (hR : ∀ a' w', a'.defers = [] → a'.tmps.getD 4 undef = .bool true → (∃ j, w' = w.drewN j) → Q .ret a' w')
    (hZ : ∀ a' j, P2 → P3 → Fr5b a' (.slice na n nc) (.slice oa n oc) (s5) (s6) (s7) (s8) (s9) → Q .normal a' (w.drewN j)) :
    Code.wp Try.prog (stm Try.f5.body 5) Q a w := by
  have HZ := hide hZ
  have HR := hide hR
  clear hZ hR
  refine fr_open5b (fun a => Code.wp Try.prog (stm Try.f5.body 5) Q a w) a hF ?_
  intro u2 u3 u4 u10 u11 u12 u13 u14 u15 u16 u17 u18 u19 u20 u21 u22 u23 u24 u25 u26 u27 u28 u29 u30 u31 u32 u33 u34 u35 u36 u37 u38 u39 u40 u41 u42 u43 u44 u45 u46 u47 u48 u49 u50 u51 u52 u53 u54 u55 u56 u57 u58 u59 u60 u61 u62 u63 u64 u65 u66 u67 u68 u69 u70 u71 u72 u73 u74 u75 u76 u77 u78 u79 u80 u81 u82 u83 u84 u85 u86 u87 u88 u89 u90 u91 u92 u93 u94 u95 u96 u97 u98 u99 u100 u101 u102 u103 u104 u105 u106 u107 u108 u109 u110 u111 u112 u113 u114 u115 u116 u117 u118 u119 u120 u121 u122 u123 u124 u125 u126 u127 u128 u129 u130 u131 u132 u133 u134 u135 u136 u137 u138 u139 u140 u141 u142 u143 u144 u145 u146 u147 u148 u149 u150 u151 u152 u153 u154 u155 u156 u157 u158 u159 u160 u161 u162 u163 u164 u165 u166 u167 u168 u169 u170 u171 u172 u173 u174 u175 u176 u177 u178 u179 u180 u181 u182 u183 u184 u185 u186 u187 u188 u189 u190 u191 u192 u193 u194 u195 u196 u197 u198 u199 u200 u201 u202 u203 u204 u205 u206 u207 u208 u209 u210 u211 u212 u213 u214 u215 u216 u217 u218 u219 u220 u221 u222 u223 u224 u225 u226 u227 u228 u229 u230 u231 u232 u233 u234 u235 u236 u237 u238 u239 u240
  dsimp only
  conv => arg 2; whnf
  go_wp2_with fail
  refine hc1.mono ?_
  rintro e w1 ⟨b, rfl, -, j, rfl⟩
  clear hc1
  cases b
  · go_wp2_with fail
    exact unhide HR _ _ rfl rfl ⟨_, rfl⟩
  · go_wp2_with fail
    refine (hc2 j).mono ?_
    rintro e w1 ⟨b, rfl, hb, j', rfl⟩
    have HB := hide hb
    clear hb hc2
    cases b
    · go_wp2_with fail
      exact unhide HR _ _ rfl rfl ⟨_, rfl⟩
    · go_wp2_with fail
      refine (hc3 _).mono ?_
      rintro e w1 ⟨b, rfl, hb, j'', rfl⟩
      have HB' := hide hb
      clear hb hc3
      cases b
      · go_wp2_with fail
        exact unhide HR _ _ rfl rfl ⟨_, rfl⟩
      · go_wp2_with fail
        exact unhide HZ _ _ (unhide HB (by trivial)) (unhide HB' (by trivial)) ⟨rfl, rfl, rfl, rfl, rfl, rfl, rfl, rfl, rfl⟩

set_option maxHeartbeats 8000000 in
set_option maxRecDepth 100000 in
theorem lb11 (R : Ending → World → Prop) (hcall : Calls Try.prog 12 #[.slice na n nc] w R)
    (hF : Fr5b a (.slice na n nc) (.slice oa n oc) (s5) (s6) (s7) (s8) (s9))
    (hR : ∀ e w', R e w' → ∃ v', e = .returned v')
    (hZ : ∀ a' w' v' , R (.returned v') w' → Fr5b a' (v') (.slice oa n oc) (s5) (s6) (s7) (s8) (s9) → Q .normal a' w') :
    Code.wp Try.prog (stm Try.f5.body 6) Q a w := by
  have HZ := hide hZ
  have HR := hide hR
  clear hZ hR
  refine fr_open5b (fun a => Code.wp Try.prog (stm Try.f5.body 6) Q a w) a hF ?_
  intro u2 u3 u4 u10 u11 u12 u13 u14 u15 u16 u17 u18 u19 u20 u21 u22 u23 u24 u25 u26 u27 u28 u29 u30 u31 u32 u33 u34 u35 u36 u37 u38 u39 u40 u41 u42 u43 u44 u45 u46 u47 u48 u49 u50 u51 u52 u53 u54 u55 u56 u57 u58 u59 u60 u61 u62 u63 u64 u65 u66 u67 u68 u69 u70 u71 u72 u73 u74 u75 u76 u77 u78 u79 u80 u81 u82 u83 u84 u85 u86 u87 u88 u89 u90 u91 u92 u93 u94 u95 u96 u97 u98 u99 u100 u101 u102 u103 u104 u105 u106 u107 u108 u109 u110 u111 u112 u113 u114 u115 u116 u117 u118 u119 u120 u121 u122 u123 u124 u125 u126 u127 u128 u129 u130 u131 u132 u133 u134 u135 u136 u137 u138 u139 u140 u141 u142 u143 u144 u145 u146 u147 u148 u149 u150 u151 u152 u153 u154 u155 u156 u157 u158 u159 u160 u161 u162 u163 u164 u165 u166 u167 u168 u169 u170 u171 u172 u173 u174 u175 u176 u177 u178 u179 u180 u181 u182 u183 u184 u185 u186 u187 u188 u189 u190 u191 u192 u193 u194 u195 u196 u197 u198 u199 u200 u201 u202 u203 u204 u205 u206 u207 u208 u209 u210 u211 u212 u213 u214 u215 u216 u217 u218 u219 u220 u221 u222 u223 u224 u225 u226 u227 u228 u229 u230 u231 u232 u233 u234 u235 u236 u237 u238 u239 u240
  dsimp only
  conv => arg 2; whnf
  go_wp2_with fail
  refine hcall.mono ?_
  intro e w2 hr
  obtain ⟨v', he⟩ := unhide HR e w2 hr
  subst he
  have HQ := hide hr
  clear hr
  go_wp2_with fail
  exact unhide HZ _ _ _  (unhide HQ) ⟨rfl, rfl, rfl, rfl, rfl, rfl, rfl, rfl, rfl⟩

set_option maxHeartbeats 8000000 in
set_option maxRecDepth 100000 in
theorem lb12 (R : Ending → World → Prop) (hcall : Calls Try.prog 13 #[.slice oa n oc] w R)
    (hF : Fr5b a (.slice na n nc) (.slice oa n oc) (s5) (s6) (s7) (s8) (s9))
    (hR : ∀ e w', R e w' → ∃ v', e = .returned v')
    (hZ : ∀ a' w' v' , R (.returned v') w' → Fr5b a' (.slice na n nc) (v') (s5) (s6) (s7) (s8) (s9) → Q .normal a' w') :
    Code.wp Try.prog (stm Try.f5.body 7) Q a w := by
  have HZ := hide hZ
  have HR := hide hR
  clear hZ hR
  refine fr_open5b (fun a => Code.wp Try.prog (stm Try.f5.body 7) Q a w) a hF ?_
  intro u2 u3 u4 u10 u11 u12 u13 u14 u15 u16 u17 u18 u19 u20 u21 u22 u23 u24 u25 u26 u27 u28 u29 u30 u31 u32 u33 u34 u35 u36 u37 u38 u39 u40 u41 u42 u43 u44 u45 u46 u47 u48 u49 u50 u51 u52 u53 u54 u55 u56 u57 u58 u59 u60 u61 u62 u63 u64 u65 u66 u67 u68 u69 u70 u71 u72 u73 u74 u75 u76 u77 u78 u79 u80 u81 u82 u83 u84 u85 u86 u87 u88 u89 u90 u91 u92 u93 u94 u95 u96 u97 u98 u99 u100 u101 u102 u103 u104 u105 u106 u107 u108 u109 u110 u111 u112 u113 u114 u115 u116 u117 u118 u119 u120 u121 u122 u123 u124 u125 u126 u127 u128 u129 u130 u131 u132 u133 u134 u135 u136 u137 u138 u139 u140 u141 u142 u143 u144 u145 u146 u147 u148 u149 u150 u151 u152 u153 u154 u155 u156 u157 u158 u159 u160 u161 u162 u163 u164 u165 u166 u167 u168 u169 u170 u171 u172 u173 u174 u175 u176 u177 u178 u179 u180 u181 u182 u183 u184 u185 u186 u187 u188 u189 u190 u191 u192 u193 u194 u195 u196 u197 u198 u199 u200 u201 u202 u203 u204 u205 u206 u207 u208 u209 u210 u211 u212 u213 u214 u215 u216 u217 u218 u219 u220 u221 u222 u223 u224 u225 u226 u227 u228 u229 u230 u231 u232 u233 u234 u235 u236 u237 u238 u239 u240
  dsimp only
  conv => arg 2; whnf
  go_wp2_with fail
  refine hcall.mono ?_
  intro e w2 hr
  obtain ⟨v', he⟩ := unhide HR e w2 hr
  subst he
  have HQ := hide hr
  clear hr
  go_wp2_with fail
  exact unhide HZ _ _ _  (unhide HQ) ⟨rfl, rfl, rfl, rfl, rfl, rfl, rfl, rfl, rfl⟩

set_option maxHeartbeats 8000000 in
set_option maxRecDepth 100000 in
theorem lb13 (R : Ending → World → Prop) (hcall : Calls Try.prog 22 #[.slice na n nc, .slice oa n oc] w R)
    (hF : Fr5b a (.slice na n nc) (.slice oa n oc) (s5) (s6) (s7) (s8) (s9))
    (hR : ∀ e w', R e w' → ∃ v', e = .returned v')
    (hZ : ∀ a' w' v' , R (.returned v') w' → Fr5b a' (.slice na n nc) (.slice oa n oc) (v') (s6) (s7) (s8) (s9) → Q .normal a' w') :
    Code.wp Try.prog (stm Try.f5.body 8) Q a w := by
  have HZ := hide hZ
  have HR := hide hR
  clear hZ hR
  refine fr_open5b (fun a => Code.wp Try.prog (stm Try.f5.body 8) Q a w) a hF ?_
  intro u2 u3 u4 u10 u11 u12 u13 u14 u15 u16 u17 u18 u19 u20 u21 u22 u23 u24 u25 u26 u27 u28 u29 u30 u31 u32 u33 u34 u35 u36 u37 u38 u39 u40 u41 u42 u43 u44 u45 u46 u47 u48 u49 u50 u51 u52 u53 u54 u55 u56 u57 u58 u59 u60 u61 u62 u63 u64 u65 u66 u67 u68 u69 u70 u71 u72 u73 u74 u75 u76 u77 u78 u79 u80 u81 u82 u83 u84 u85 u86 u87 u88 u89 u90 u91 u92 u93 u94 u95 u96 u97 u98 u99 u100 u101 u102 u103 u104 u105 u106 u107 u108 u109 u110 u111 u112 u113 u114 u115 u116 u117 u118 u119 u120 u121 u122 u123 u124 u125 u126 u127 u128 u129 u130 u131 u132 u133 u134 u135 u136 u137 u138 u139 u140 u141 u142 u143 u144 u145 u146 u147 u148 u149 u150 u151 u152 u153 u154 u155 u156 u157 u158 u159 u160 u161 u162 u163 u164 u165 u166 u167 u168 u169 u170 u171 u172 u173 u174 u175 u176 u177 u178 u179 u180 u181 u182 u183 u184 u185 u186 u187 u188 u189 u190 u191 u192 u193 u194 u195 u196 u197 u198 u199 u200 u201 u202 u203 u204 u205 u206 u207 u208 u209 u210 u211 u212 u213 u214 u215 u216 u217 u218 u219 u220 u221 u222 u223 u224 u225 u226 u227 u228 u229 u230 u231 u232 u233 u234 u235 u236 u237 u238 u239 u240
  dsimp only
  conv => arg 2; whnf
  go_wp2_with fail
  refine hcall.mono ?_
  intro e w2 hr
  obtain ⟨v', he⟩ := unhide HR e w2 hr
  subst he
  have HQ := hide hr
  clear hr
  go_wp2_with fail
  exact unhide HZ _ _ _  (unhide HQ) ⟨rfl, rfl, rfl, rfl, rfl, rfl, rfl, rfl, rfl⟩

set_option maxHeartbeats 8000000 in
set_option maxRecDepth 100000 in
theorem lb14 
    (hF : Fr5b a (.slice na n nc) (.slice oa n oc) (s5) (s6) (s7) (s8) (s9))
    (hZ : ∀ a', Fr5b a' (.slice na n nc) (.slice oa n oc) (s5) (.int .i64 (n : Nat)) (s7) (s8) (s9) → Q .normal a' w) :
    Code.wp Try.prog (stm Try.f5.body 9) Q a w := by
  have HZ := hide hZ
  clear hZ 
  refine fr_open5b (fun a => Code.wp Try.prog (stm Try.f5.body 9) Q a w) a hF ?_
  intro u2 u3 u4 u10 u11 u12 u13 u14 u15 u16 u17 u18 u19 u20 u21 u22 u23 u24 u25 u26 u27 u28 u29 u30 u31 u32 u33 u34 u35 u36 u37 u38 u39 u40 u41 u42 u43 u44 u45 u46 u47 u48 u49 u50 u51 u52 u53 u54 u55 u56 u57 u58 u59 u60 u61 u62 u63 u64 u65 u66 u67 u68 u69 u70 u71 u72 u73 u74 u75 u76 u77 u78 u79 u80 u81 u82 u83 u84 u85 u86 u87 u88 u89 u90 u91 u92 u93 u94 u95 u96 u97 u98 u99 u100 u101 u102 u103 u104 u105 u106 u107 u108 u109 u110 u111 u112 u113 u114 u115 u116 u117 u118 u119 u120 u121 u122 u123 u124 u125 u126 u127 u128 u129 u130 u131 u132 u133 u134 u135 u136 u137 u138 u139 u140 u141 u142 u143 u144 u145 u146 u147 u148 u149 u150 u151 u152 u153 u154 u155 u156 u157 u158 u159 u160 u161 u162 u163 u164 u165 u166 u167 u168 u169 u170 u171 u172 u173 u174 u175 u176 u177 u178 u179 u180 u181 u182 u183 u184 u185 u186 u187 u188 u189 u190 u191 u192 u193 u194 u195 u196 u197 u198 u199 u200 u201 u202 u203 u204 u205 u206 u207 u208 u209 u210 u211 u212 u213 u214 u215 u216 u217 u218 u219 u220 u221 u222 u223 u224 u225 u226 u227 u228 u229 u230 u231 u232 u233 u234 u235 u236 u237 u238 u239 u240
  dsimp only
  conv => arg 2; whnf
  go_wp2_with fail
  exact unhide HZ _ ⟨rfl, rfl, rfl, rfl, rfl, rfl, rfl, rfl, rfl⟩

set_option maxHeartbeats 8000000 in
set_option maxRecDepth 100000 in
theorem lb15 (R : Ending → World → Prop) (hcall : Calls Try.prog 15 #[.slice oa n oc] w R)
    (hF : Fr5b a (.slice na n nc) (.slice oa n oc) (s5) (s6) (s7) (s8) (s9))
    (hR : ∀ e w', R e w' → ∃ v', e = .returned v')
    (hZ : ∀ a' w' v' , R (.returned v') w' → Fr5b a' (.slice na n nc) (.slice oa n oc) (s5) (s6) (v') (s8) (s9) → Q .normal a' w') :
    Code.wp Try.prog (stm Try.f5.body 10) Q a w := by
  have HZ := hide hZ
  have HR := hide hR
  clear hZ hR
  refine fr_open5b (fun a => Code.wp Try.prog (stm Try.f5.body 10) Q a w) a hF ?_
  intro u2 u3 u4 u10 u11 u12 u13 u14 u15 u16 u17 u18 u19 u20 u21 u22 u23 u24 u25 u26 u27 u28 u29 u30 u31 u32 u33 u34 u35 u36 u37 u38 u39 u40 u41 u42 u43 u44 u45 u46 u47 u48 u49 u50 u51 u52 u53 u54 u55 u56 u57 u58 u59 u60 u61 u62 u63 u64 u65 u66 u67 u68 u69 u70 u71 u72 u73 u74 u75 u76 u77 u78 u79 u80 u81 u82 u83 u84 u85 u86 u87 u88 u89 u90 u91 u92 u93 u94 u95 u96 u97 u98 u99 u100 u101 u102 u103 u104 u105 u106 u107 u108 u109 u110 u111 u112 u113 u114 u115 u116 u117 u118 u119 u120 u121 u122 u123 u124 u125 u126 u127 u128 u129 u130 u131 u132 u133 u134 u135 u136 u137 u138 u139 u140 u141 u142 u143 u144 u145 u146 u147 u148 u149 u150 u151 u152 u153 u154 u155 u156 u157 u158 u159 u160 u161 u162 u163 u164 u165 u166 u167 u168 u169 u170 u171 u172 u173 u174 u175 u176 u177 u178 u179 u180 u181 u182 u183 u184 u185 u186 u187 u188 u189 u190 u191 u192 u193 u194 u195 u196 u197 u198 u199 u200 u201 u202 u203 u204 u205 u206 u207 u208 u209 u210 u211 u212 u213 u214 u215 u216 u217 u218 u219 u220 u221 u222 u223 u224 u225 u226 u227 u228 u229 u230 u231 u232 u233 u234 u235 u236 u237 u238 u239 u240
  dsimp only
  conv => arg 2; whnf
  go_wp2_with fail
  refine hcall.mono ?_
  intro e w2 hr
  obtain ⟨v', he⟩ := unhide HR e w2 hr
  subst he
  have HQ := hide hr
  clear hr
  go_wp2_with fail
  exact unhide HZ _ _ _  (unhide HQ) ⟨rfl, rfl, rfl, rfl, rfl, rfl, rfl, rfl, rfl⟩

set_option maxHeartbeats 8000000 in
set_option maxRecDepth 100000 in
theorem lb16 
    (hF : Fr5b a (.slice na n nc) (.slice oa n oc) (s5) (s6) (s7) (s8) (s9))
    (hZ : ∀ a', Fr5b a' (.slice na n nc) (.slice oa n oc) (s5) (s6) (s7) (.int .i64 (-1)) (s9) → Q .normal a' w) :
    Code.wp Try.prog (stm Try.f5.body 11) Q a w := by
  have HZ := hide hZ
  clear hZ 
  refine fr_open5b (fun a => Code.wp Try.prog (stm Try.f5.body 11) Q a w) a hF ?_
  intro u2 u3 u4 u10 u11 u12 u13 u14 u15 u16 u17 u18 u19 u20 u21 u22 u23 u24 u25 u26 u27 u28 u29 u30 u31 u32 u33 u34 u35 u36 u37 u38 u39 u40 u41 u42 u43 u44 u45 u46 u47 u48 u49 u50 u51 u52 u53 u54 u55 u56 u57 u58 u59 u60 u61 u62 u63 u64 u65 u66 u67 u68 u69 u70 u71 u72 u73 u74 u75 u76 u77 u78 u79 u80 u81 u82 u83 u84 u85 u86 u87 u88 u89 u90 u91 u92 u93 u94 u95 u96 u97 u98 u99 u100 u101 u102 u103 u104 u105 u106 u107 u108 u109 u110 u111 u112 u113 u114 u115 u116 u117 u118 u119 u120 u121 u122 u123 u124 u125 u126 u127 u128 u129 u130 u131 u132 u133 u134 u135 u136 u137 u138 u139 u140 u141 u142 u143 u144 u145 u146 u147 u148 u149 u150 u151 u152 u153 u154 u155 u156 u157 u158 u159 u160 u161 u162 u163 u164 u165 u166 u167 u168 u169 u170 u171 u172 u173 u174 u175 u176 u177 u178 u179 u180 u181 u182 u183 u184 u185 u186 u187 u188 u189 u190 u191 u192 u193 u194 u195 u196 u197 u198 u199 u200 u201 u202 u203 u204 u205 u206 u207 u208 u209 u210 u211 u212 u213 u214 u215 u216 u217 u218 u219 u220 u221 u222 u223 u224 u225 u226 u227 u228 u229 u230 u231 u232 u233 u234 u235 u236 u237 u238 u239 u240
  dsimp only
  conv => arg 2; whnf
  go_wp2_with fail
  exact unhide HZ _ ⟨rfl, rfl, rfl, rfl, rfl, rfl, rfl, rfl, rfl⟩

set_option maxHeartbeats 8000000 in
set_option maxRecDepth 100000 in
theorem lb17 {sz : Nat → Nat} (hn : n ≤ 65536) (hrow : w.rowIs b7 3 n (fun i => .int .i64 (sz i : Nat)))
    (hF : Fr5b a (.slice na n nc) (.slice oa n oc) (s5) (.int .i64 (n : Nat)) (.slice (some ⟨b7, 0, Option.none⟩) n n) (.int .i64 (-1)) (s9))
    (hN : ∀ a' s9, (∀ x, x < n → ¬ 1 < sz x) → Fr5b a' (.slice na n nc) (.slice oa n oc) (s5) (.int .i64 (n : Nat)) (.slice (some ⟨b7, 0, Option.none⟩) n n) (.int .i64 (-1)) (s9) → Q .normal a' w)
    (hZ : ∀ a' s s9, s < n → 1 < sz s → (∀ x, x < s → ¬ 1 < sz x) → Fr5b a' (.slice na n nc) (.slice oa n oc) (s5) (.int .i64 (n : Nat)) (.slice (some ⟨b7, 0, Option.none⟩) n n) (.int .i64 (s : Nat)) (s9) → Q .normal a' w) :
    Code.wp Try.prog (stm Try.f5.body 12) Q a w := by
  have HZ := hide hZ
  have HN := hide hN
  have HR := hide hrow
  clear hZ hN hrow
  refine fr_open5b (fun a => Code.wp Try.prog (stm Try.f5.body 12) Q a w) a hF ?_
  intro u2 u3 u4 u10 u11 u12 u13 u14 u15 u16 u17 u18 u19 u20 u21 u22 u23 u24 u25 u26 u27 u28 u29 u30 u31 u32 u33 u34 u35 u36 u37 u38 u39 u40 u41 u42 u43 u44 u45 u46 u47 u48 u49 u50 u51 u52 u53 u54 u55 u56 u57 u58 u59 u60 u61 u62 u63 u64 u65 u66 u67 u68 u69 u70 u71 u72 u73 u74 u75 u76 u77 u78 u79 u80 u81 u82 u83 u84 u85 u86 u87 u88 u89 u90 u91 u92 u93 u94 u95 u96 u97 u98 u99 u100 u101 u102 u103 u104 u105 u106 u107 u108 u109 u110 u111 u112 u113 u114 u115 u116 u117 u118 u119 u120 u121 u122 u123 u124 u125 u126 u127 u128 u129 u130 u131 u132 u133 u134 u135 u136 u137 u138 u139 u140 u141 u142 u143 u144 u145 u146 u147 u148 u149 u150 u151 u152 u153 u154 u155 u156 u157 u158 u159 u160 u161 u162 u163 u164 u165 u166 u167 u168 u169 u170 u171 u172 u173 u174 u175 u176 u177 u178 u179 u180 u181 u182 u183 u184 u185 u186 u187 u188 u189 u190 u191 u192 u193 u194 u195 u196 u197 u198 u199 u200 u201 u202 u203 u204 u205 u206 u207 u208 u209 u210 u211 u212 u213 u214 u215 u216 u217 u218 u219 u220 u221 u222 u223 u224 u225 u226 u227 u228 u229 u230 u231 u232 u233 u234 u235 u236 u237 u238 u239 u240
  dsimp only
  conv => arg 2; whnf
  go_wp2_with fail
  go_loopw [8, 9] (fun t i wr => ∃ k : Nat, k ≤ n ∧ t = .int .i64 (-1) ∧ i = .int .i64 k ∧ wr = w ∧ ∀ x, x < k → ¬ 1 < sz x) (fun _ i _ => n - (intOf i).toNat)
  case atStart => exact ⟨0, Nat.zero_le _, rfl, rfl, rfl, fun i hi => absurd hi (Nat.not_lt_zero _)⟩
  case round =>
    obtain ⟨k, hk, rfl, rfl, rfl, hall⟩ := hrel
    have HA := hide hall
    clear hall
    by_cases hlt : k < n
    · have hc := (unhide HR).cell hlt
      have lk : (k : Int) < (n : Int) := by omega
      by_cases hs : 1 < sz k
      · have t1 : (1 : Int) < (sz k : Int) := by omega
        go_wp2_with fail
        exact unhide HZ _ k _ hlt hs (unhide HA) ⟨rfl, rfl, rfl, rfl, rfl, rfl, rfl, rfl, rfl⟩
      · have t1 : ¬ (1 : Int) < (sz k : Int) := by omega
        go_wp2_with fail
        go_roundw
        case rel => exact ⟨k + 1, by omega, rfl, by go_num, by first | rfl | trivial, fun i hi => (by
          by_cases e : i = k
          · subst e; exact hs
          · exact unhide HA i (by omega))⟩
        case measure => simp [intOf]; omega
    · obtain rfl : k = n := by omega
      go_wp2_with fail
      exact unhide HN _ _ (unhide HA) ⟨rfl, rfl, rfl, rfl, rfl, rfl, rfl, rfl, rfl⟩

set_option maxHeartbeats 8000000 in
set_option maxRecDepth 100000 in
theorem lb22 (hF : Fr5b a (.slice na n nc) (.slice oa n oc) (.slice Option.none 0 0) (s6) (s7) (.int .i64 (-1)) (s9))
    (hR : ∀ a', a'.defers = [] → a'.tmps.getD 4 undef = .bool true → Q .ret a' w) :
    Code.wp Try.prog (stm Try.f5.body 13) Q a w := by
  have HR := hide hR
  have hnl := nil22
  clear hR
  refine fr_open5b (fun a => Code.wp Try.prog (stm Try.f5.body 13) Q a w) a hF ?_
  intro u2 u3 u4 u10 u11 u12 u13 u14 u15 u16 u17 u18 u19 u20 u21 u22 u23 u24 u25 u26 u27 u28 u29 u30 u31 u32 u33 u34 u35 u36 u37 u38 u39 u40 u41 u42 u43 u44 u45 u46 u47 u48 u49 u50 u51 u52 u53 u54 u55 u56 u57 u58 u59 u60 u61 u62 u63 u64 u65 u66 u67 u68 u69 u70 u71 u72 u73 u74 u75 u76 u77 u78 u79 u80 u81 u82 u83 u84 u85 u86 u87 u88 u89 u90 u91 u92 u93 u94 u95 u96 u97 u98 u99 u100 u101 u102 u103 u104 u105 u106 u107 u108 u109 u110 u111 u112 u113 u114 u115 u116 u117 u118 u119 u120 u121 u122 u123 u124 u125 u126 u127 u128 u129 u130 u131 u132 u133 u134 u135 u136 u137 u138 u139 u140 u141 u142 u143 u144 u145 u146 u147 u148 u149 u150 u151 u152 u153 u154 u155 u156 u157 u158 u159 u160 u161 u162 u163 u164 u165 u166 u167 u168 u169 u170 u171 u172 u173 u174 u175 u176 u177 u178 u179 u180 u181 u182 u183 u184 u185 u186 u187 u188 u189 u190 u191 u192 u193 u194 u195 u196 u197 u198 u199 u200 u201 u202 u203 u204 u205 u206 u207 u208 u209 u210 u211 u212 u213 u214 u215 u216 u217 u218 u219 u220 u221 u222 u223 u224 u225 u226 u227 u228 u229 u230 u231 u232 u233 u234 u235 u236 u237 u238 u239 u240
  dsimp only
  conv => arg 2; whnf
  go_wp2_with fail
  exact unhide HR _ rfl rfl

set_option maxHeartbeats 8000000 in
set_option maxRecDepth 100000 in
theorem lb22b 
    (hF : Fr5b a (.slice na n nc) (.slice oa n oc) (s5) (s6) (s7) (.int .i64 (s : Nat)) (s9))
    (hZ : ∀ a', Fr5b a' (.slice na n nc) (.slice oa n oc) (s5) (s6) (s7) (.int .i64 (s : Nat)) (s9) → Q .normal a' w) :
    Code.wp Try.prog (stm Try.f5.body 13) Q a w := by
  have HZ := hide hZ
  clear hZ 
  refine fr_open5b (fun a => Code.wp Try.prog (stm Try.f5.body 13) Q a w) a hF ?_
  intro u2 u3 u4 u10 u11 u12 u13 u14 u15 u16 u17 u18 u19 u20 u21 u22 u23 u24 u25 u26 u27 u28 u29 u30 u31 u32 u33 u34 u35 u36 u37 u38 u39 u40 u41 u42 u43 u44 u45 u46 u47 u48 u49 u50 u51 u52 u53 u54 u55 u56 u57 u58 u59 u60 u61 u62 u63 u64 u65 u66 u67 u68 u69 u70 u71 u72 u73 u74 u75 u76 u77 u78 u79 u80 u81 u82 u83 u84 u85 u86 u87 u88 u89 u90 u91 u92 u93 u94 u95 u96 u97 u98 u99 u100 u101 u102 u103 u104 u105 u106 u107 u108 u109 u110 u111 u112 u113 u114 u115 u116 u117 u118 u119 u120 u121 u122 u123 u124 u125 u126 u127 u128 u129 u130 u131 u132 u133 u134 u135 u136 u137 u138 u139 u140 u141 u142 u143 u144 u145 u146 u147 u148 u149 u150 u151 u152 u153 u154 u155 u156 u157 u158 u159 u160 u161 u162 u163 u164 u165 u166 u167 u168 u169 u170 u171 u172 u173 u174 u175 u176 u177 u178 u179 u180 u181 u182 u183 u184 u185 u186 u187 u188 u189 u190 u191 u192 u193 u194 u195 u196 u197 u198 u199 u200 u201 u202 u203 u204 u205 u206 u207 u208 u209 u210 u211 u212 u213 u214 u215 u216 u217 u218 u219 u220 u221 u222 u223 u224 u225 u226 u227 u228 u229 u230 u231 u232 u233 u234 u235 u236 u237 u238 u239 u240
  dsimp only
  conv => arg 2; whnf
  go_wp2_with fail
  exact unhide HZ _ ⟨rfl, rfl, rfl, rfl, rfl, rfl, rfl, rfl, rfl⟩

end Go.Proofs.Qxb6602460a
