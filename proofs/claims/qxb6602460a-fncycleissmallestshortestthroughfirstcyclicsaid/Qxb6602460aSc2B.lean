import Derived.Test.Qxb6602460aSccG
namespace Go.Proofs.Qxb6602460a
open Go.RowKit Go.Maps Go.Own

variable {n b5 b14 b16 b17 m5 m16 m17 : Nat} {ra : Option Addr} {rc : Nat} {w w' : World} {Q : Exit → Act → World → Prop} {a : Act} {s16 s17 s18 s19 s20 s21 s22 s23 s24 : Value} {A : Option Addr} {N C j x v m q r c z : Nat}

set_option maxHeartbeats 8000000 in
set_option maxRecDepth 100000 in
theorem sd45 
    (hF : Fr15b a (.int .i64 (n : Nat)) (.slice (some ⟨b5, 0, Option.none⟩) m5 n) (.slice ra n rc) (.slice (some ⟨b14, 0, Option.none⟩) n n) (.slice (some ⟨b16, 0, Option.none⟩) m16 n) (.slice (some ⟨b17, 0, Option.none⟩) m17 n) (s18) (s19) (s20) (s21) (s22) (s23) (s24))
    (h1 : 0 < m17 → ∀ a', Fr15b a' (.int .i64 (n : Nat)) (.slice (some ⟨b5, 0, Option.none⟩) m5 n) (.slice ra n rc) (.slice (some ⟨b14, 0, Option.none⟩) n n) (.slice (some ⟨b16, 0, Option.none⟩) m16 n) (.slice (some ⟨b17, 0, Option.none⟩) m17 n) (s18) (s19) (s20) (s21) (s22) (s23) (s24) → Q .normal a' w)
    (h2 : ¬ 0 < m17 → ∀ a', Fr15b a' (.int .i64 (n : Nat)) (.slice (some ⟨b5, 0, Option.none⟩) m5 n) (.slice ra n rc) (.slice (some ⟨b14, 0, Option.none⟩) n n) (.slice (some ⟨b16, 0, Option.none⟩) m16 n) (.slice (some ⟨b17, 0, Option.none⟩) m17 n) (s18) (s19) (s20) (s21) (s22) (s23) (s24) → Q (.exit 8) a' w) :
    Code.wp Try.prog (headC (innerC (innerC (tailC (tailC (tailC (tailC (tailC (tailC (tailC (innerC (headC (tailC (innerC (innerC (tailC (stm Try.f15.body 12))))))))))))))))) Q a w := by
  by_cases hc : 0 < m17
  · have HZ := hide (h1 hc)
    have t1 : (0 : Int) < (m17 : Int) := by omega
    clear h1 h2 
    refine fr_open15b (fun a => Code.wp Try.prog (headC (innerC (innerC (tailC (tailC (tailC (tailC (tailC (tailC (tailC (innerC (headC (tailC (innerC (innerC (tailC (stm Try.f15.body 12))))))))))))))))) Q a w) a hF ?_
    intro u0 u1 u2 u4 u6 u7 u8 u9 u10 u11 u12 u15 u25 u26 u27 u28 u29 u30 u31 u32 u33 u34 u35 u36 u37 u38 u39 u40 u41 u42 u43 u44 u45 u46 u47 u48 u49 u50 u51 u52 u53 u54 u55 u56 u57 u58 u59 u60 u61 u62 u63 u64 u65 u66 u67 u68 u69 u70 u71 u72 u73 u74 u75 u76 u77 u78 u79 u80 u81 u82 u83 u84 u85 u86 u87 u88 u89 u90 u91 u92 u93 u94 u95 u96 u97 u98 u99 u100 u101 u102 u103 u104 u105 u106 u107 u108 u109 u110 u111 u112 u113 u114 u115 u116 u117 u118 u119 u120 u121 u122 u123 u124 u125 u126 u127 u128 u129 u130 u131 u132 u133 u134 u135 u136 u137 u138 u139 u140 u141 u142 u143 u144 u145 u146 u147 u148 u149 u150 u151 u152 u153 u154 u155 u156 u157 u158 u159 u160 u161 u162 u163 u164 u165 u166 u167 u168 u169 u170 u171 u172 u173 u174 u175 u176 u177 u178 u179 u180 u181 u182 u183 u184 u185 u186 u187 u188 u189 u190 u191 u192 u193 u194 u195 u196 u197 u198 u199 u200 u201 u202 u203 u204 u205 u206 u207 u208 u209 u210 u211 u212 u213 u214 u215 u216 u217 u218 u219 u220 u221 u222 u223 u224 u225 u226 u227
    dsimp only
    conv => arg 2; whnf
    go_wp2_with fail
    exact unhide HZ _ ⟨rfl, rfl, rfl, rfl, rfl, rfl, rfl, rfl, rfl, rfl, rfl, rfl, rfl, rfl, rfl⟩
  · have HZ := hide (h2 hc)
    obtain rfl : m17 = 0 := by omega
    clear h1 h2 
    refine fr_open15b (fun a => Code.wp Try.prog (headC (innerC (innerC (tailC (tailC (tailC (tailC (tailC (tailC (tailC (innerC (headC (tailC (innerC (innerC (tailC (stm Try.f15.body 12))))))))))))))))) Q a w) a hF ?_
    intro u0 u1 u2 u4 u6 u7 u8 u9 u10 u11 u12 u15 u25 u26 u27 u28 u29 u30 u31 u32 u33 u34 u35 u36 u37 u38 u39 u40 u41 u42 u43 u44 u45 u46 u47 u48 u49 u50 u51 u52 u53 u54 u55 u56 u57 u58 u59 u60 u61 u62 u63 u64 u65 u66 u67 u68 u69 u70 u71 u72 u73 u74 u75 u76 u77 u78 u79 u80 u81 u82 u83 u84 u85 u86 u87 u88 u89 u90 u91 u92 u93 u94 u95 u96 u97 u98 u99 u100 u101 u102 u103 u104 u105 u106 u107 u108 u109 u110 u111 u112 u113 u114 u115 u116 u117 u118 u119 u120 u121 u122 u123 u124 u125 u126 u127 u128 u129 u130 u131 u132 u133 u134 u135 u136 u137 u138 u139 u140 u141 u142 u143 u144 u145 u146 u147 u148 u149 u150 u151 u152 u153 u154 u155 u156 u157 u158 u159 u160 u161 u162 u163 u164 u165 u166 u167 u168 u169 u170 u171 u172 u173 u174 u175 u176 u177 u178 u179 u180 u181 u182 u183 u184 u185 u186 u187 u188 u189 u190 u191 u192 u193 u194 u195 u196 u197 u198 u199 u200 u201 u202 u203 u204 u205 u206 u207 u208 u209 u210 u211 u212 u213 u214 u215 u216 u217 u218 u219 u220 u221 u222 u223 u224 u225 u226 u227
    dsimp only
    conv => arg 2; whnf
    go_wp2_with fail
    exact unhide HZ _ ⟨rfl, rfl, rfl, rfl, rfl, rfl, rfl, rfl, rfl, rfl, rfl, rfl, rfl, rfl, rfl⟩

set_option maxHeartbeats 8000000 in
set_option maxRecDepth 100000 in
theorem sd46 (hm : m + 1 ≤ n) (hn : n ≤ 65536) (d1 : w.cell? ⟨b17, m, Option.none⟩ = some (.int .i64 (v : Nat)))
    (hF : Fr15b a (.int .i64 (n : Nat)) (.slice (some ⟨b5, 0, Option.none⟩) m5 n) (.slice ra n rc) (.slice (some ⟨b14, 0, Option.none⟩) n n) (.slice (some ⟨b16, 0, Option.none⟩) m16 n) (.slice (some ⟨b17, 0, Option.none⟩) (m + 1) n) (s18) (s19) (s20) (s21) (s22) (s23) (s24))
    (hZ : ∀ a', Fr15b a' (.int .i64 (n : Nat)) (.slice (some ⟨b5, 0, Option.none⟩) m5 n) (.slice ra n rc) (.slice (some ⟨b14, 0, Option.none⟩) n n) (.slice (some ⟨b16, 0, Option.none⟩) m16 n) (.slice (some ⟨b17, 0, Option.none⟩) (m + 1) n) (s18) (s19) (s20) (.int .i64 (v : Nat)) (s22) (s23) (s24) → Q .normal a' w) :
    Code.wp Try.prog (headC (innerC (tailC (innerC (innerC (tailC (tailC (tailC (tailC (tailC (tailC (tailC (innerC (headC (tailC (innerC (innerC (tailC (stm Try.f15.body 12))))))))))))))))))) Q a w := by
  have HZ := hide hZ
  have lm : (m : Int) < ((m + 1 : Nat) : Int) := by omega
  clear hZ 
  refine fr_open15b (fun a => Code.wp Try.prog (headC (innerC (tailC (innerC (innerC (tailC (tailC (tailC (tailC (tailC (tailC (tailC (innerC (headC (tailC (innerC (innerC (tailC (stm Try.f15.body 12))))))))))))))))))) Q a w) a hF ?_
  intro u0 u1 u2 u4 u6 u7 u8 u9 u10 u11 u12 u15 u25 u26 u27 u28 u29 u30 u31 u32 u33 u34 u35 u36 u37 u38 u39 u40 u41 u42 u43 u44 u45 u46 u47 u48 u49 u50 u51 u52 u53 u54 u55 u56 u57 u58 u59 u60 u61 u62 u63 u64 u65 u66 u67 u68 u69 u70 u71 u72 u73 u74 u75 u76 u77 u78 u79 u80 u81 u82 u83 u84 u85 u86 u87 u88 u89 u90 u91 u92 u93 u94 u95 u96 u97 u98 u99 u100 u101 u102 u103 u104 u105 u106 u107 u108 u109 u110 u111 u112 u113 u114 u115 u116 u117 u118 u119 u120 u121 u122 u123 u124 u125 u126 u127 u128 u129 u130 u131 u132 u133 u134 u135 u136 u137 u138 u139 u140 u141 u142 u143 u144 u145 u146 u147 u148 u149 u150 u151 u152 u153 u154 u155 u156 u157 u158 u159 u160 u161 u162 u163 u164 u165 u166 u167 u168 u169 u170 u171 u172 u173 u174 u175 u176 u177 u178 u179 u180 u181 u182 u183 u184 u185 u186 u187 u188 u189 u190 u191 u192 u193 u194 u195 u196 u197 u198 u199 u200 u201 u202 u203 u204 u205 u206 u207 u208 u209 u210 u211 u212 u213 u214 u215 u216 u217 u218 u219 u220 u221 u222 u223 u224 u225 u226 u227
  dsimp only
  conv => arg 2; whnf
  go_wp2_with fail
  exact unhide HZ _ ⟨rfl, rfl, rfl, rfl, rfl, rfl, rfl, rfl, rfl, rfl, rfl, rfl, rfl, rfl, rfl⟩

set_option maxHeartbeats 8000000 in
set_option maxRecDepth 100000 in
theorem sd47 (hm : m + 1 ≤ n) (hn : n ≤ 65536)
    (hF : Fr15b a (.int .i64 (n : Nat)) (.slice (some ⟨b5, 0, Option.none⟩) m5 n) (.slice ra n rc) (.slice (some ⟨b14, 0, Option.none⟩) n n) (.slice (some ⟨b16, 0, Option.none⟩) m16 n) (.slice (some ⟨b17, 0, Option.none⟩) (m + 1) n) (s18) (s19) (s20) (s21) (s22) (s23) (s24))
    (hZ : ∀ a', Fr15b a' (.int .i64 (n : Nat)) (.slice (some ⟨b5, 0, Option.none⟩) m5 n) (.slice ra n rc) (.slice (some ⟨b14, 0, Option.none⟩) n n) (.slice (some ⟨b16, 0, Option.none⟩) m16 n) (.slice (some ⟨b17, 0, Option.none⟩) m n) (s18) (s19) (s20) (s21) (s22) (s23) (s24) → Q .normal a' w) :
    Code.wp Try.prog (headC (tailC (innerC (tailC (innerC (innerC (tailC (tailC (tailC (tailC (tailC (tailC (tailC (innerC (headC (tailC (innerC (innerC (tailC (stm Try.f15.body 12)))))))))))))))))))) Q a w := by
  have HZ := hide hZ
  have l1 : (m : Int) ≤ ((m + 1 : Nat) : Int) := by omega
  have l2 : (m : Int) ≤ ((n : Nat) : Int) := by omega
  have l3 : ¬ n = 0 := by omega
  clear hZ 
  refine fr_open15b (fun a => Code.wp Try.prog (headC (tailC (innerC (tailC (innerC (innerC (tailC (tailC (tailC (tailC (tailC (tailC (tailC (innerC (headC (tailC (innerC (innerC (tailC (stm Try.f15.body 12)))))))))))))))))))) Q a w) a hF ?_
  intro u0 u1 u2 u4 u6 u7 u8 u9 u10 u11 u12 u15 u25 u26 u27 u28 u29 u30 u31 u32 u33 u34 u35 u36 u37 u38 u39 u40 u41 u42 u43 u44 u45 u46 u47 u48 u49 u50 u51 u52 u53 u54 u55 u56 u57 u58 u59 u60 u61 u62 u63 u64 u65 u66 u67 u68 u69 u70 u71 u72 u73 u74 u75 u76 u77 u78 u79 u80 u81 u82 u83 u84 u85 u86 u87 u88 u89 u90 u91 u92 u93 u94 u95 u96 u97 u98 u99 u100 u101 u102 u103 u104 u105 u106 u107 u108 u109 u110 u111 u112 u113 u114 u115 u116 u117 u118 u119 u120 u121 u122 u123 u124 u125 u126 u127 u128 u129 u130 u131 u132 u133 u134 u135 u136 u137 u138 u139 u140 u141 u142 u143 u144 u145 u146 u147 u148 u149 u150 u151 u152 u153 u154 u155 u156 u157 u158 u159 u160 u161 u162 u163 u164 u165 u166 u167 u168 u169 u170 u171 u172 u173 u174 u175 u176 u177 u178 u179 u180 u181 u182 u183 u184 u185 u186 u187 u188 u189 u190 u191 u192 u193 u194 u195 u196 u197 u198 u199 u200 u201 u202 u203 u204 u205 u206 u207 u208 u209 u210 u211 u212 u213 u214 u215 u216 u217 u218 u219 u220 u221 u222 u223 u224 u225 u226 u227
  dsimp only
  conv => arg 2; whnf
  go_wp2_with fail
  exact unhide HZ _ ⟨rfl, rfl, rfl, rfl, rfl, rfl, rfl, rfl, rfl, rfl, rfl, rfl, rfl, rfl, rfl⟩

set_option maxHeartbeats 8000000 in
set_option maxRecDepth 100000 in
theorem sd48 (hc : c < m16) (hz : z ≤ 65536) (d1 : w.cell? ⟨b16, c, Option.none⟩ = some (.int .i64 (z : Nat))) (f1 : w.frozen? ⟨b16, c, Option.none⟩ = false)
    (hF : Fr15b a (.int .i64 (n : Nat)) (.slice (some ⟨b5, 0, Option.none⟩) m5 n) (.slice ra n rc) (.slice (some ⟨b14, 0, Option.none⟩) n n) (.slice (some ⟨b16, 0, Option.none⟩) m16 n) (.slice (some ⟨b17, 0, Option.none⟩) m17 n) (s18) (s19) (.int .i64 (c : Nat)) (s21) (s22) (s23) (s24))
    (hZ : ∀ a', Fr15b a' (.int .i64 (n : Nat)) (.slice (some ⟨b5, 0, Option.none⟩) m5 n) (.slice ra n rc) (.slice (some ⟨b14, 0, Option.none⟩) n n) (.slice (some ⟨b16, 0, Option.none⟩) m16 n) (.slice (some ⟨b17, 0, Option.none⟩) m17 n) (s18) (s19) (.int .i64 (c : Nat)) (s21) (s22) (s23) (s24) → Q .normal a' (w.setCell ⟨b16, c, Option.none⟩ (.int .i64 ((z + 1 : Nat) : Int)))) :
    Code.wp Try.prog (headC (tailC (tailC (innerC (tailC (innerC (innerC (tailC (tailC (tailC (tailC (tailC (tailC (tailC (innerC (headC (tailC (innerC (innerC (tailC (stm Try.f15.body 12))))))))))))))))))))) Q a w := by
  have HZ := hide hZ
  have lc : (c : Int) < (m16 : Int) := by omega
  clear hZ 
  refine fr_open15b (fun a => Code.wp Try.prog (headC (tailC (tailC (innerC (tailC (innerC (innerC (tailC (tailC (tailC (tailC (tailC (tailC (tailC (innerC (headC (tailC (innerC (innerC (tailC (stm Try.f15.body 12))))))))))))))))))))) Q a w) a hF ?_
  intro u0 u1 u2 u4 u6 u7 u8 u9 u10 u11 u12 u15 u25 u26 u27 u28 u29 u30 u31 u32 u33 u34 u35 u36 u37 u38 u39 u40 u41 u42 u43 u44 u45 u46 u47 u48 u49 u50 u51 u52 u53 u54 u55 u56 u57 u58 u59 u60 u61 u62 u63 u64 u65 u66 u67 u68 u69 u70 u71 u72 u73 u74 u75 u76 u77 u78 u79 u80 u81 u82 u83 u84 u85 u86 u87 u88 u89 u90 u91 u92 u93 u94 u95 u96 u97 u98 u99 u100 u101 u102 u103 u104 u105 u106 u107 u108 u109 u110 u111 u112 u113 u114 u115 u116 u117 u118 u119 u120 u121 u122 u123 u124 u125 u126 u127 u128 u129 u130 u131 u132 u133 u134 u135 u136 u137 u138 u139 u140 u141 u142 u143 u144 u145 u146 u147 u148 u149 u150 u151 u152 u153 u154 u155 u156 u157 u158 u159 u160 u161 u162 u163 u164 u165 u166 u167 u168 u169 u170 u171 u172 u173 u174 u175 u176 u177 u178 u179 u180 u181 u182 u183 u184 u185 u186 u187 u188 u189 u190 u191 u192 u193 u194 u195 u196 u197 u198 u199 u200 u201 u202 u203 u204 u205 u206 u207 u208 u209 u210 u211 u212 u213 u214 u215 u216 u217 u218 u219 u220 u221 u222 u223 u224 u225 u226 u227
  dsimp only
  conv => arg 2; whnf
  go_wp2_with fail
  exact unhide HZ _ ⟨rfl, rfl, rfl, rfl, rfl, rfl, rfl, rfl, rfl, rfl, rfl, rfl, rfl, rfl, rfl⟩

set_option maxHeartbeats 8000000 in
set_option maxRecDepth 100000 in
theorem sd49 (hv : v < n) (hr : ∃ b off, ra = some ⟨b, off, Option.none⟩ ∧ w.cell? ⟨b, off + v, Option.none⟩ = some (.slice A N C))
    (hF : Fr15b a (.int .i64 (n : Nat)) (.slice (some ⟨b5, 0, Option.none⟩) m5 n) (.slice ra n rc) (.slice (some ⟨b14, 0, Option.none⟩) n n) (.slice (some ⟨b16, 0, Option.none⟩) m16 n) (.slice (some ⟨b17, 0, Option.none⟩) m17 n) (s18) (s19) (s20) (.int .i64 (v : Nat)) (s22) (s23) (s24))
    (hZ : ∀ a', Fr15b a' (.int .i64 (n : Nat)) (.slice (some ⟨b5, 0, Option.none⟩) m5 n) (.slice ra n rc) (.slice (some ⟨b14, 0, Option.none⟩) n n) (.slice (some ⟨b16, 0, Option.none⟩) m16 n) (.slice (some ⟨b17, 0, Option.none⟩) m17 n) (s18) (s19) (s20) (.int .i64 (v : Nat)) (.slice A N C) (s23) (s24) → Q .normal a' w) :
    Code.wp Try.prog (headC (tailC (tailC (tailC (innerC (tailC (innerC (innerC (tailC (tailC (tailC (tailC (tailC (tailC (tailC (innerC (headC (tailC (innerC (innerC (tailC (stm Try.f15.body 12)))))))))))))))))))))) Q a w := by
  have HZ := hide hZ
  obtain ⟨b, off, rfl, hr⟩ := hr
  have lk : ((v : Nat) : Int) < (n : Int) := by omega
  clear hZ 
  refine fr_open15b (fun a => Code.wp Try.prog (headC (tailC (tailC (tailC (innerC (tailC (innerC (innerC (tailC (tailC (tailC (tailC (tailC (tailC (tailC (innerC (headC (tailC (innerC (innerC (tailC (stm Try.f15.body 12)))))))))))))))))))))) Q a w) a hF ?_
  intro u0 u1 u2 u4 u6 u7 u8 u9 u10 u11 u12 u15 u25 u26 u27 u28 u29 u30 u31 u32 u33 u34 u35 u36 u37 u38 u39 u40 u41 u42 u43 u44 u45 u46 u47 u48 u49 u50 u51 u52 u53 u54 u55 u56 u57 u58 u59 u60 u61 u62 u63 u64 u65 u66 u67 u68 u69 u70 u71 u72 u73 u74 u75 u76 u77 u78 u79 u80 u81 u82 u83 u84 u85 u86 u87 u88 u89 u90 u91 u92 u93 u94 u95 u96 u97 u98 u99 u100 u101 u102 u103 u104 u105 u106 u107 u108 u109 u110 u111 u112 u113 u114 u115 u116 u117 u118 u119 u120 u121 u122 u123 u124 u125 u126 u127 u128 u129 u130 u131 u132 u133 u134 u135 u136 u137 u138 u139 u140 u141 u142 u143 u144 u145 u146 u147 u148 u149 u150 u151 u152 u153 u154 u155 u156 u157 u158 u159 u160 u161 u162 u163 u164 u165 u166 u167 u168 u169 u170 u171 u172 u173 u174 u175 u176 u177 u178 u179 u180 u181 u182 u183 u184 u185 u186 u187 u188 u189 u190 u191 u192 u193 u194 u195 u196 u197 u198 u199 u200 u201 u202 u203 u204 u205 u206 u207 u208 u209 u210 u211 u212 u213 u214 u215 u216 u217 u218 u219 u220 u221 u222 u223 u224 u225 u226 u227
  dsimp only
  conv => arg 2; whnf
  go_wp2_with fail
  exact unhide HZ _ ⟨rfl, rfl, rfl, rfl, rfl, rfl, rfl, rfl, rfl, rfl, rfl, rfl, rfl, rfl, rfl⟩

set_option maxHeartbeats 8000000 in
set_option maxRecDepth 100000 in
theorem sd50 
    (hF : Fr15b a (.int .i64 (n : Nat)) (.slice (some ⟨b5, 0, Option.none⟩) m5 n) (.slice ra n rc) (.slice (some ⟨b14, 0, Option.none⟩) n n) (.slice (some ⟨b16, 0, Option.none⟩) m16 n) (.slice (some ⟨b17, 0, Option.none⟩) m17 n) (s18) (s19) (s20) (s21) (s22) (s23) (s24))
    (hZ : ∀ a', Fr15b a' (.int .i64 (n : Nat)) (.slice (some ⟨b5, 0, Option.none⟩) m5 n) (.slice ra n rc) (.slice (some ⟨b14, 0, Option.none⟩) n n) (.slice (some ⟨b16, 0, Option.none⟩) m16 n) (.slice (some ⟨b17, 0, Option.none⟩) m17 n) (s18) (s19) (s20) (s21) (s22) (.int .i64 0) (s24) → Q .normal a' w) :
    Code.wp Try.prog (headC (tailC (tailC (tailC (tailC (innerC (tailC (innerC (innerC (tailC (tailC (tailC (tailC (tailC (tailC (tailC (innerC (headC (tailC (innerC (innerC (tailC (stm Try.f15.body 12))))))))))))))))))))))) Q a w := by
  have HZ := hide hZ
  clear hZ 
  refine fr_open15b (fun a => Code.wp Try.prog (headC (tailC (tailC (tailC (tailC (innerC (tailC (innerC (innerC (tailC (tailC (tailC (tailC (tailC (tailC (tailC (innerC (headC (tailC (innerC (innerC (tailC (stm Try.f15.body 12))))))))))))))))))))))) Q a w) a hF ?_
  intro u0 u1 u2 u4 u6 u7 u8 u9 u10 u11 u12 u15 u25 u26 u27 u28 u29 u30 u31 u32 u33 u34 u35 u36 u37 u38 u39 u40 u41 u42 u43 u44 u45 u46 u47 u48 u49 u50 u51 u52 u53 u54 u55 u56 u57 u58 u59 u60 u61 u62 u63 u64 u65 u66 u67 u68 u69 u70 u71 u72 u73 u74 u75 u76 u77 u78 u79 u80 u81 u82 u83 u84 u85 u86 u87 u88 u89 u90 u91 u92 u93 u94 u95 u96 u97 u98 u99 u100 u101 u102 u103 u104 u105 u106 u107 u108 u109 u110 u111 u112 u113 u114 u115 u116 u117 u118 u119 u120 u121 u122 u123 u124 u125 u126 u127 u128 u129 u130 u131 u132 u133 u134 u135 u136 u137 u138 u139 u140 u141 u142 u143 u144 u145 u146 u147 u148 u149 u150 u151 u152 u153 u154 u155 u156 u157 u158 u159 u160 u161 u162 u163 u164 u165 u166 u167 u168 u169 u170 u171 u172 u173 u174 u175 u176 u177 u178 u179 u180 u181 u182 u183 u184 u185 u186 u187 u188 u189 u190 u191 u192 u193 u194 u195 u196 u197 u198 u199 u200 u201 u202 u203 u204 u205 u206 u207 u208 u209 u210 u211 u212 u213 u214 u215 u216 u217 u218 u219 u220 u221 u222 u223 u224 u225 u226 u227
  dsimp only
  conv => arg 2; whnf
  go_wp2_with fail
  exact unhide HZ _ ⟨rfl, rfl, rfl, rfl, rfl, rfl, rfl, rfl, rfl, rfl, rfl, rfl, rfl, rfl, rfl⟩

set_option maxHeartbeats 8000000 in
set_option maxRecDepth 100000 in
theorem sd51 
    (hF : Fr15b a (.int .i64 (n : Nat)) (.slice (some ⟨b5, 0, Option.none⟩) m5 n) (.slice ra n rc) (.slice (some ⟨b14, 0, Option.none⟩) n n) (.slice (some ⟨b16, 0, Option.none⟩) m16 n) (.slice (some ⟨b17, 0, Option.none⟩) m17 n) (s18) (s19) (s20) (s21) (.slice A N C) (.int .i64 (j : Nat)) (s24))
    (h1 : j < N → ∀ a', Fr15b a' (.int .i64 (n : Nat)) (.slice (some ⟨b5, 0, Option.none⟩) m5 n) (.slice ra n rc) (.slice (some ⟨b14, 0, Option.none⟩) n n) (.slice (some ⟨b16, 0, Option.none⟩) m16 n) (.slice (some ⟨b17, 0, Option.none⟩) m17 n) (s18) (s19) (s20) (s21) (.slice A N C) (.int .i64 (j : Nat)) (s24) → Q .normal a' w)
    (h2 : ¬ j < N → ∀ a', Fr15b a' (.int .i64 (n : Nat)) (.slice (some ⟨b5, 0, Option.none⟩) m5 n) (.slice ra n rc) (.slice (some ⟨b14, 0, Option.none⟩) n n) (.slice (some ⟨b16, 0, Option.none⟩) m16 n) (.slice (some ⟨b17, 0, Option.none⟩) m17 n) (s18) (s19) (s20) (s21) (.slice A N C) (.int .i64 (j : Nat)) (s24) → Q (.exit 10) a' w) :
    Code.wp Try.prog (headC (innerC (innerC (tailC (tailC (tailC (tailC (tailC (innerC (tailC (innerC (innerC (tailC (tailC (tailC (tailC (tailC (tailC (tailC (innerC (headC (tailC (innerC (innerC (tailC (stm Try.f15.body 12)))))))))))))))))))))))))) Q a w := by
  by_cases hc : j < N
  · have HZ := hide (h1 hc)
    have t1 : (j : Int) < (N : Int) := by omega
    clear h1 h2 
    refine fr_open15b (fun a => Code.wp Try.prog (headC (innerC (innerC (tailC (tailC (tailC (tailC (tailC (innerC (tailC (innerC (innerC (tailC (tailC (tailC (tailC (tailC (tailC (tailC (innerC (headC (tailC (innerC (innerC (tailC (stm Try.f15.body 12)))))))))))))))))))))))))) Q a w) a hF ?_
    intro u0 u1 u2 u4 u6 u7 u8 u9 u10 u11 u12 u15 u25 u26 u27 u28 u29 u30 u31 u32 u33 u34 u35 u36 u37 u38 u39 u40 u41 u42 u43 u44 u45 u46 u47 u48 u49 u50 u51 u52 u53 u54 u55 u56 u57 u58 u59 u60 u61 u62 u63 u64 u65 u66 u67 u68 u69 u70 u71 u72 u73 u74 u75 u76 u77 u78 u79 u80 u81 u82 u83 u84 u85 u86 u87 u88 u89 u90 u91 u92 u93 u94 u95 u96 u97 u98 u99 u100 u101 u102 u103 u104 u105 u106 u107 u108 u109 u110 u111 u112 u113 u114 u115 u116 u117 u118 u119 u120 u121 u122 u123 u124 u125 u126 u127 u128 u129 u130 u131 u132 u133 u134 u135 u136 u137 u138 u139 u140 u141 u142 u143 u144 u145 u146 u147 u148 u149 u150 u151 u152 u153 u154 u155 u156 u157 u158 u159 u160 u161 u162 u163 u164 u165 u166 u167 u168 u169 u170 u171 u172 u173 u174 u175 u176 u177 u178 u179 u180 u181 u182 u183 u184 u185 u186 u187 u188 u189 u190 u191 u192 u193 u194 u195 u196 u197 u198 u199 u200 u201 u202 u203 u204 u205 u206 u207 u208 u209 u210 u211 u212 u213 u214 u215 u216 u217 u218 u219 u220 u221 u222 u223 u224 u225 u226 u227
    dsimp only
    conv => arg 2; whnf
    go_wp2_with fail
    exact unhide HZ _ ⟨rfl, rfl, rfl, rfl, rfl, rfl, rfl, rfl, rfl, rfl, rfl, rfl, rfl, rfl, rfl⟩
  · have HZ := hide (h2 hc)
    have t1 : ¬ (j : Int) < (N : Int) := by omega
    clear h1 h2 
    refine fr_open15b (fun a => Code.wp Try.prog (headC (innerC (innerC (tailC (tailC (tailC (tailC (tailC (innerC (tailC (innerC (innerC (tailC (tailC (tailC (tailC (tailC (tailC (tailC (innerC (headC (tailC (innerC (innerC (tailC (stm Try.f15.body 12)))))))))))))))))))))))))) Q a w) a hF ?_
    intro u0 u1 u2 u4 u6 u7 u8 u9 u10 u11 u12 u15 u25 u26 u27 u28 u29 u30 u31 u32 u33 u34 u35 u36 u37 u38 u39 u40 u41 u42 u43 u44 u45 u46 u47 u48 u49 u50 u51 u52 u53 u54 u55 u56 u57 u58 u59 u60 u61 u62 u63 u64 u65 u66 u67 u68 u69 u70 u71 u72 u73 u74 u75 u76 u77 u78 u79 u80 u81 u82 u83 u84 u85 u86 u87 u88 u89 u90 u91 u92 u93 u94 u95 u96 u97 u98 u99 u100 u101 u102 u103 u104 u105 u106 u107 u108 u109 u110 u111 u112 u113 u114 u115 u116 u117 u118 u119 u120 u121 u122 u123 u124 u125 u126 u127 u128 u129 u130 u131 u132 u133 u134 u135 u136 u137 u138 u139 u140 u141 u142 u143 u144 u145 u146 u147 u148 u149 u150 u151 u152 u153 u154 u155 u156 u157 u158 u159 u160 u161 u162 u163 u164 u165 u166 u167 u168 u169 u170 u171 u172 u173 u174 u175 u176 u177 u178 u179 u180 u181 u182 u183 u184 u185 u186 u187 u188 u189 u190 u191 u192 u193 u194 u195 u196 u197 u198 u199 u200 u201 u202 u203 u204 u205 u206 u207 u208 u209 u210 u211 u212 u213 u214 u215 u216 u217 u218 u219 u220 u221 u222 u223 u224 u225 u226 u227
    dsimp only
    conv => arg 2; whnf
    go_wp2_with fail
    exact unhide HZ _ ⟨rfl, rfl, rfl, rfl, rfl, rfl, rfl, rfl, rfl, rfl, rfl, rfl, rfl, rfl, rfl⟩

set_option maxHeartbeats 8000000 in
set_option maxRecDepth 100000 in
theorem sd53 (hk : j < N) (hg : ∃ b off, A = some ⟨b, off, Option.none⟩ ∧ w.cell? ⟨b, off + j, Option.none⟩ = some (.int .i64 (x : Nat)))
    (hF : Fr15b a (.int .i64 (n : Nat)) (.slice (some ⟨b5, 0, Option.none⟩) m5 n) (.slice ra n rc) (.slice (some ⟨b14, 0, Option.none⟩) n n) (.slice (some ⟨b16, 0, Option.none⟩) m16 n) (.slice (some ⟨b17, 0, Option.none⟩) m17 n) (s18) (s19) (s20) (s21) (.slice A N C) (.int .i64 (j : Nat)) (s24))
    (hZ : ∀ a', Fr15b a' (.int .i64 (n : Nat)) (.slice (some ⟨b5, 0, Option.none⟩) m5 n) (.slice ra n rc) (.slice (some ⟨b14, 0, Option.none⟩) n n) (.slice (some ⟨b16, 0, Option.none⟩) m16 n) (.slice (some ⟨b17, 0, Option.none⟩) m17 n) (s18) (s19) (s20) (s21) (.slice A N C) (.int .i64 (j : Nat)) (.int .i64 (x : Nat)) → Q .normal a' w) :
    Code.wp Try.prog (headC (innerC (headC (tailC (innerC (innerC (tailC (tailC (tailC (tailC (tailC (innerC (tailC (innerC (innerC (tailC (tailC (tailC (tailC (tailC (tailC (tailC (innerC (headC (tailC (innerC (innerC (tailC (stm Try.f15.body 12))))))))))))))))))))))))))))) Q a w := by
  have HZ := hide hZ
  obtain ⟨b, off, rfl, hg⟩ := hg
  have lk : (j : Int) < (N : Int) := by omega
  clear hZ 
  refine fr_open15b (fun a => Code.wp Try.prog (headC (innerC (headC (tailC (innerC (innerC (tailC (tailC (tailC (tailC (tailC (innerC (tailC (innerC (innerC (tailC (tailC (tailC (tailC (tailC (tailC (tailC (innerC (headC (tailC (innerC (innerC (tailC (stm Try.f15.body 12))))))))))))))))))))))))))))) Q a w) a hF ?_
  intro u0 u1 u2 u4 u6 u7 u8 u9 u10 u11 u12 u15 u25 u26 u27 u28 u29 u30 u31 u32 u33 u34 u35 u36 u37 u38 u39 u40 u41 u42 u43 u44 u45 u46 u47 u48 u49 u50 u51 u52 u53 u54 u55 u56 u57 u58 u59 u60 u61 u62 u63 u64 u65 u66 u67 u68 u69 u70 u71 u72 u73 u74 u75 u76 u77 u78 u79 u80 u81 u82 u83 u84 u85 u86 u87 u88 u89 u90 u91 u92 u93 u94 u95 u96 u97 u98 u99 u100 u101 u102 u103 u104 u105 u106 u107 u108 u109 u110 u111 u112 u113 u114 u115 u116 u117 u118 u119 u120 u121 u122 u123 u124 u125 u126 u127 u128 u129 u130 u131 u132 u133 u134 u135 u136 u137 u138 u139 u140 u141 u142 u143 u144 u145 u146 u147 u148 u149 u150 u151 u152 u153 u154 u155 u156 u157 u158 u159 u160 u161 u162 u163 u164 u165 u166 u167 u168 u169 u170 u171 u172 u173 u174 u175 u176 u177 u178 u179 u180 u181 u182 u183 u184 u185 u186 u187 u188 u189 u190 u191 u192 u193 u194 u195 u196 u197 u198 u199 u200 u201 u202 u203 u204 u205 u206 u207 u208 u209 u210 u211 u212 u213 u214 u215 u216 u217 u218 u219 u220 u221 u222 u223 u224 u225 u226 u227
  dsimp only
  conv => arg 2; whnf
  go_wp2_with fail
  exact unhide HZ _ ⟨rfl, rfl, rfl, rfl, rfl, rfl, rfl, rfl, rfl, rfl, rfl, rfl, rfl, rfl, rfl⟩

set_option maxHeartbeats 8000000 in
set_option maxRecDepth 100000 in
theorem sd54 (X Y : Code) {p : Int} (hx : x < n) (d1 : w.cell? ⟨b14, x, Option.none⟩ = some (.int .i64 p))
    (hF : Fr15b a (.int .i64 (n : Nat)) (.slice (some ⟨b5, 0, Option.none⟩) m5 n) (.slice ra n rc) (.slice (some ⟨b14, 0, Option.none⟩) n n) (.slice (some ⟨b16, 0, Option.none⟩) m16 n) (.slice (some ⟨b17, 0, Option.none⟩) m17 n) (s18) (s19) (s20) (s21) (s22) (s23) (.int .i64 (x : Nat)))
    (h1 : p < 0 → ∀ a', Fr15b a' (.int .i64 (n : Nat)) (.slice (some ⟨b5, 0, Option.none⟩) m5 n) (.slice ra n rc) (.slice (some ⟨b14, 0, Option.none⟩) n n) (.slice (some ⟨b16, 0, Option.none⟩) m16 n) (.slice (some ⟨b17, 0, Option.none⟩) m17 n) (s18) (s19) (s20) (s21) (s22) (s23) (.int .i64 (x : Nat)) → Code.wp Try.prog X Q a' w)
    (h2 : ¬ p < 0 → ∀ a', Fr15b a' (.int .i64 (n : Nat)) (.slice (some ⟨b5, 0, Option.none⟩) m5 n) (.slice ra n rc) (.slice (some ⟨b14, 0, Option.none⟩) n n) (.slice (some ⟨b16, 0, Option.none⟩) m16 n) (.slice (some ⟨b17, 0, Option.none⟩) m17 n) (s18) (s19) (s20) (s21) (s22) (s23) (.int .i64 (x : Nat)) → Code.wp Try.prog Y Q a' w) :
    Code.wp Try.prog (.seq (headC (tailC (innerC (headC (tailC (innerC (innerC (tailC (tailC (tailC (tailC (tailC (innerC (tailC (innerC (innerC (tailC (tailC (tailC (tailC (tailC (tailC (tailC (innerC (headC (tailC (innerC (innerC (tailC (stm Try.f15.body 12)))))))))))))))))))))))))))))) (.cond (.tmp 201) X Y)) Q a w := by
  have lk : ((x : Nat) : Int) < (n : Int) := by omega
  by_cases hc : p < 0
  · have HZ := hide (h1 hc)
    have t1 : decide (p < 0) = true := decide_eq_true hc
    clear h1 h2 
    refine fr_open15b (fun a => Code.wp Try.prog (.seq (headC (tailC (innerC (headC (tailC (innerC (innerC (tailC (tailC (tailC (tailC (tailC (innerC (tailC (innerC (innerC (tailC (tailC (tailC (tailC (tailC (tailC (tailC (innerC (headC (tailC (innerC (innerC (tailC (stm Try.f15.body 12)))))))))))))))))))))))))))))) (.cond (.tmp 201) X Y)) Q a w) a hF ?_
    intro u0 u1 u2 u4 u6 u7 u8 u9 u10 u11 u12 u15 u25 u26 u27 u28 u29 u30 u31 u32 u33 u34 u35 u36 u37 u38 u39 u40 u41 u42 u43 u44 u45 u46 u47 u48 u49 u50 u51 u52 u53 u54 u55 u56 u57 u58 u59 u60 u61 u62 u63 u64 u65 u66 u67 u68 u69 u70 u71 u72 u73 u74 u75 u76 u77 u78 u79 u80 u81 u82 u83 u84 u85 u86 u87 u88 u89 u90 u91 u92 u93 u94 u95 u96 u97 u98 u99 u100 u101 u102 u103 u104 u105 u106 u107 u108 u109 u110 u111 u112 u113 u114 u115 u116 u117 u118 u119 u120 u121 u122 u123 u124 u125 u126 u127 u128 u129 u130 u131 u132 u133 u134 u135 u136 u137 u138 u139 u140 u141 u142 u143 u144 u145 u146 u147 u148 u149 u150 u151 u152 u153 u154 u155 u156 u157 u158 u159 u160 u161 u162 u163 u164 u165 u166 u167 u168 u169 u170 u171 u172 u173 u174 u175 u176 u177 u178 u179 u180 u181 u182 u183 u184 u185 u186 u187 u188 u189 u190 u191 u192 u193 u194 u195 u196 u197 u198 u199 u200 u201 u202 u203 u204 u205 u206 u207 u208 u209 u210 u211 u212 u213 u214 u215 u216 u217 u218 u219 u220 u221 u222 u223 u224 u225 u226 u227
    dsimp only
    conv => arg 2; arg 1; whnf
    go_wp2_with fail
    exact unhide HZ _ ⟨rfl, rfl, rfl, rfl, rfl, rfl, rfl, rfl, rfl, rfl, rfl, rfl, rfl, rfl, rfl⟩
  · have HZ := hide (h2 hc)
    have t1 : decide (p < 0) = false := decide_eq_false hc
    clear h1 h2 
    refine fr_open15b (fun a => Code.wp Try.prog (.seq (headC (tailC (innerC (headC (tailC (innerC (innerC (tailC (tailC (tailC (tailC (tailC (innerC (tailC (innerC (innerC (tailC (tailC (tailC (tailC (tailC (tailC (tailC (innerC (headC (tailC (innerC (innerC (tailC (stm Try.f15.body 12)))))))))))))))))))))))))))))) (.cond (.tmp 201) X Y)) Q a w) a hF ?_
    intro u0 u1 u2 u4 u6 u7 u8 u9 u10 u11 u12 u15 u25 u26 u27 u28 u29 u30 u31 u32 u33 u34 u35 u36 u37 u38 u39 u40 u41 u42 u43 u44 u45 u46 u47 u48 u49 u50 u51 u52 u53 u54 u55 u56 u57 u58 u59 u60 u61 u62 u63 u64 u65 u66 u67 u68 u69 u70 u71 u72 u73 u74 u75 u76 u77 u78 u79 u80 u81 u82 u83 u84 u85 u86 u87 u88 u89 u90 u91 u92 u93 u94 u95 u96 u97 u98 u99 u100 u101 u102 u103 u104 u105 u106 u107 u108 u109 u110 u111 u112 u113 u114 u115 u116 u117 u118 u119 u120 u121 u122 u123 u124 u125 u126 u127 u128 u129 u130 u131 u132 u133 u134 u135 u136 u137 u138 u139 u140 u141 u142 u143 u144 u145 u146 u147 u148 u149 u150 u151 u152 u153 u154 u155 u156 u157 u158 u159 u160 u161 u162 u163 u164 u165 u166 u167 u168 u169 u170 u171 u172 u173 u174 u175 u176 u177 u178 u179 u180 u181 u182 u183 u184 u185 u186 u187 u188 u189 u190 u191 u192 u193 u194 u195 u196 u197 u198 u199 u200 u201 u202 u203 u204 u205 u206 u207 u208 u209 u210 u211 u212 u213 u214 u215 u216 u217 u218 u219 u220 u221 u222 u223 u224 u225 u226 u227
    dsimp only
    conv => arg 2; arg 1; whnf
    go_wp2_with fail
    exact unhide HZ _ ⟨rfl, rfl, rfl, rfl, rfl, rfl, rfl, rfl, rfl, rfl, rfl, rfl, rfl, rfl, rfl⟩

set_option maxHeartbeats 8000000 in
set_option maxRecDepth 100000 in
theorem sd55 (hx : x < n) (d1 : (w.cell? ⟨b14, x, Option.none⟩).isSome = true) (f1 : w.frozen? ⟨b14, x, Option.none⟩ = false)
    (hF : Fr15b a (.int .i64 (n : Nat)) (.slice (some ⟨b5, 0, Option.none⟩) m5 n) (.slice ra n rc) (.slice (some ⟨b14, 0, Option.none⟩) n n) (.slice (some ⟨b16, 0, Option.none⟩) m16 n) (.slice (some ⟨b17, 0, Option.none⟩) m17 n) (s18) (s19) (.int .i64 (c : Nat)) (s21) (s22) (s23) (.int .i64 (x : Nat)))
    (hZ : ∀ a', Fr15b a' (.int .i64 (n : Nat)) (.slice (some ⟨b5, 0, Option.none⟩) m5 n) (.slice ra n rc) (.slice (some ⟨b14, 0, Option.none⟩) n n) (.slice (some ⟨b16, 0, Option.none⟩) m16 n) (.slice (some ⟨b17, 0, Option.none⟩) m17 n) (s18) (s19) (.int .i64 (c : Nat)) (s21) (s22) (s23) (.int .i64 (x : Nat)) → Q .normal a' (w.setCell ⟨b14, x, Option.none⟩ (.int .i64 (c : Nat)))) :
    Code.wp Try.prog (headC (condT (tailC (tailC (innerC (headC (tailC (innerC (innerC (tailC (tailC (tailC (tailC (tailC (innerC (tailC (innerC (innerC (tailC (tailC (tailC (tailC (tailC (tailC (tailC (innerC (headC (tailC (innerC (innerC (tailC (stm Try.f15.body 12)))))))))))))))))))))))))))))))) Q a w := by
  have HZ := hide hZ
  obtain ⟨d, d1⟩ := Option.isSome_iff_exists.1 d1
  have lk : ((x : Nat) : Int) < (n : Int) := by omega
  clear hZ 
  refine fr_open15b (fun a => Code.wp Try.prog (headC (condT (tailC (tailC (innerC (headC (tailC (innerC (innerC (tailC (tailC (tailC (tailC (tailC (innerC (tailC (innerC (innerC (tailC (tailC (tailC (tailC (tailC (tailC (tailC (innerC (headC (tailC (innerC (innerC (tailC (stm Try.f15.body 12)))))))))))))))))))))))))))))))) Q a w) a hF ?_
  intro u0 u1 u2 u4 u6 u7 u8 u9 u10 u11 u12 u15 u25 u26 u27 u28 u29 u30 u31 u32 u33 u34 u35 u36 u37 u38 u39 u40 u41 u42 u43 u44 u45 u46 u47 u48 u49 u50 u51 u52 u53 u54 u55 u56 u57 u58 u59 u60 u61 u62 u63 u64 u65 u66 u67 u68 u69 u70 u71 u72 u73 u74 u75 u76 u77 u78 u79 u80 u81 u82 u83 u84 u85 u86 u87 u88 u89 u90 u91 u92 u93 u94 u95 u96 u97 u98 u99 u100 u101 u102 u103 u104 u105 u106 u107 u108 u109 u110 u111 u112 u113 u114 u115 u116 u117 u118 u119 u120 u121 u122 u123 u124 u125 u126 u127 u128 u129 u130 u131 u132 u133 u134 u135 u136 u137 u138 u139 u140 u141 u142 u143 u144 u145 u146 u147 u148 u149 u150 u151 u152 u153 u154 u155 u156 u157 u158 u159 u160 u161 u162 u163 u164 u165 u166 u167 u168 u169 u170 u171 u172 u173 u174 u175 u176 u177 u178 u179 u180 u181 u182 u183 u184 u185 u186 u187 u188 u189 u190 u191 u192 u193 u194 u195 u196 u197 u198 u199 u200 u201 u202 u203 u204 u205 u206 u207 u208 u209 u210 u211 u212 u213 u214 u215 u216 u217 u218 u219 u220 u221 u222 u223 u224 u225 u226 u227
  dsimp only
  conv => arg 2; whnf
  go_wp2_with fail
  exact unhide HZ _ ⟨rfl, rfl, rfl, rfl, rfl, rfl, rfl, rfl, rfl, rfl, rfl, rfl, rfl, rfl, rfl⟩

set_option maxHeartbeats 8000000 in
set_option maxRecDepth 100000 in
theorem sd56 (hrun : (Builtin.append_ #[22, 22] 22 #[.slice (some ⟨b17, 0, Option.none⟩) m17 n, .slice (some ⟨w.heap.size, 0, Option.none⟩) 1 1]).run Try.prog (w.alloc (.cells #[.int .i64 (x : Nat)] 3)) = .ok (.slice (some ⟨b17, 0, Option.none⟩) (m17 + 1) n) w')
    (hF : Fr15b a (.int .i64 (n : Nat)) (.slice (some ⟨b5, 0, Option.none⟩) m5 n) (.slice ra n rc) (.slice (some ⟨b14, 0, Option.none⟩) n n) (.slice (some ⟨b16, 0, Option.none⟩) m16 n) (.slice (some ⟨b17, 0, Option.none⟩) m17 n) (s18) (s19) (s20) (s21) (s22) (s23) (.int .i64 (x : Nat)))
    (hZ : ∀ a', Fr15b a' (.int .i64 (n : Nat)) (.slice (some ⟨b5, 0, Option.none⟩) m5 n) (.slice ra n rc) (.slice (some ⟨b14, 0, Option.none⟩) n n) (.slice (some ⟨b16, 0, Option.none⟩) m16 n) (.slice (some ⟨b17, 0, Option.none⟩) (m17 + 1) n) (s18) (s19) (s20) (s21) (s22) (s23) (.int .i64 (x : Nat)) → Q .normal a' w') :
    Code.wp Try.prog (tailC (condT (tailC (tailC (innerC (headC (tailC (innerC (innerC (tailC (tailC (tailC (tailC (tailC (innerC (tailC (innerC (innerC (tailC (tailC (tailC (tailC (tailC (tailC (tailC (innerC (headC (tailC (innerC (innerC (tailC (stm Try.f15.body 12)))))))))))))))))))))))))))))))) Q a w := by
  have HZ := hide hZ
  clear hZ 
  refine fr_open15b (fun a => Code.wp Try.prog (tailC (condT (tailC (tailC (innerC (headC (tailC (innerC (innerC (tailC (tailC (tailC (tailC (tailC (innerC (tailC (innerC (innerC (tailC (tailC (tailC (tailC (tailC (tailC (tailC (innerC (headC (tailC (innerC (innerC (tailC (stm Try.f15.body 12)))))))))))))))))))))))))))))))) Q a w) a hF ?_
  intro u0 u1 u2 u4 u6 u7 u8 u9 u10 u11 u12 u15 u25 u26 u27 u28 u29 u30 u31 u32 u33 u34 u35 u36 u37 u38 u39 u40 u41 u42 u43 u44 u45 u46 u47 u48 u49 u50 u51 u52 u53 u54 u55 u56 u57 u58 u59 u60 u61 u62 u63 u64 u65 u66 u67 u68 u69 u70 u71 u72 u73 u74 u75 u76 u77 u78 u79 u80 u81 u82 u83 u84 u85 u86 u87 u88 u89 u90 u91 u92 u93 u94 u95 u96 u97 u98 u99 u100 u101 u102 u103 u104 u105 u106 u107 u108 u109 u110 u111 u112 u113 u114 u115 u116 u117 u118 u119 u120 u121 u122 u123 u124 u125 u126 u127 u128 u129 u130 u131 u132 u133 u134 u135 u136 u137 u138 u139 u140 u141 u142 u143 u144 u145 u146 u147 u148 u149 u150 u151 u152 u153 u154 u155 u156 u157 u158 u159 u160 u161 u162 u163 u164 u165 u166 u167 u168 u169 u170 u171 u172 u173 u174 u175 u176 u177 u178 u179 u180 u181 u182 u183 u184 u185 u186 u187 u188 u189 u190 u191 u192 u193 u194 u195 u196 u197 u198 u199 u200 u201 u202 u203 u204 u205 u206 u207 u208 u209 u210 u211 u212 u213 u214 u215 u216 u217 u218 u219 u220 u221 u222 u223 u224 u225 u226 u227
  dsimp only
  conv => arg 2; whnf
  go_wp2_with (at_builtin; refine Lib.wpList_append_run _ rfl _ _ _ _ rfl _ _ rfl rfl _ _ hrun ?_)
  exact unhide HZ _ ⟨rfl, rfl, rfl, rfl, rfl, rfl, rfl, rfl, rfl, rfl, rfl, rfl, rfl, rfl, rfl⟩

set_option maxHeartbeats 8000000 in
set_option maxRecDepth 100000 in
theorem sd52 (hk : j < N) (hN : N ≤ 1099511627776)
    (hF : Fr15b a (.int .i64 (n : Nat)) (.slice (some ⟨b5, 0, Option.none⟩) m5 n) (.slice ra n rc) (.slice (some ⟨b14, 0, Option.none⟩) n n) (.slice (some ⟨b16, 0, Option.none⟩) m16 n) (.slice (some ⟨b17, 0, Option.none⟩) m17 n) (s18) (s19) (s20) (s21) (.slice A N C) (.int .i64 (j : Nat)) (s24))
    (hZ : ∀ a', Fr15b a' (.int .i64 (n : Nat)) (.slice (some ⟨b5, 0, Option.none⟩) m5 n) (.slice ra n rc) (.slice (some ⟨b14, 0, Option.none⟩) n n) (.slice (some ⟨b16, 0, Option.none⟩) m16 n) (.slice (some ⟨b17, 0, Option.none⟩) m17 n) (s18) (s19) (s20) (s21) (.slice A N C) (.int .i64 ((j + 1 : Nat) : Int)) (s24) → Q .normal a' w) :
    Code.wp Try.prog (tailC (tailC (innerC (innerC (tailC (tailC (tailC (tailC (tailC (innerC (tailC (innerC (innerC (tailC (tailC (tailC (tailC (tailC (tailC (tailC (innerC (headC (tailC (innerC (innerC (tailC (stm Try.f15.body 12))))))))))))))))))))))))))) Q a w := by
  have HZ := hide hZ
  clear hZ 
  refine fr_open15b (fun a => Code.wp Try.prog (tailC (tailC (innerC (innerC (tailC (tailC (tailC (tailC (tailC (innerC (tailC (innerC (innerC (tailC (tailC (tailC (tailC (tailC (tailC (tailC (innerC (headC (tailC (innerC (innerC (tailC (stm Try.f15.body 12))))))))))))))))))))))))))) Q a w) a hF ?_
  intro u0 u1 u2 u4 u6 u7 u8 u9 u10 u11 u12 u15 u25 u26 u27 u28 u29 u30 u31 u32 u33 u34 u35 u36 u37 u38 u39 u40 u41 u42 u43 u44 u45 u46 u47 u48 u49 u50 u51 u52 u53 u54 u55 u56 u57 u58 u59 u60 u61 u62 u63 u64 u65 u66 u67 u68 u69 u70 u71 u72 u73 u74 u75 u76 u77 u78 u79 u80 u81 u82 u83 u84 u85 u86 u87 u88 u89 u90 u91 u92 u93 u94 u95 u96 u97 u98 u99 u100 u101 u102 u103 u104 u105 u106 u107 u108 u109 u110 u111 u112 u113 u114 u115 u116 u117 u118 u119 u120 u121 u122 u123 u124 u125 u126 u127 u128 u129 u130 u131 u132 u133 u134 u135 u136 u137 u138 u139 u140 u141 u142 u143 u144 u145 u146 u147 u148 u149 u150 u151 u152 u153 u154 u155 u156 u157 u158 u159 u160 u161 u162 u163 u164 u165 u166 u167 u168 u169 u170 u171 u172 u173 u174 u175 u176 u177 u178 u179 u180 u181 u182 u183 u184 u185 u186 u187 u188 u189 u190 u191 u192 u193 u194 u195 u196 u197 u198 u199 u200 u201 u202 u203 u204 u205 u206 u207 u208 u209 u210 u211 u212 u213 u214 u215 u216 u217 u218 u219 u220 u221 u222 u223 u224 u225 u226 u227
  dsimp only
  conv => arg 2; whnf
  go_wp2_with fail
  exact unhide HZ _ ⟨rfl, rfl, rfl, rfl, rfl, rfl, rfl, rfl, rfl, rfl, rfl, rfl, rfl, rfl, rfl⟩

end Go.Proofs.Qxb6602460a
