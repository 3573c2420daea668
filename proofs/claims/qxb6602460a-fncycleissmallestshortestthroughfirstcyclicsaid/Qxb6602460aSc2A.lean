import Derived.Test.Qxb6602460aSccG
namespace Go.Proofs.Qxb6602460a
open Go.RowKit Go.Maps Go.Own

variable {n b5 b14 b16 b17 m5 m16 m17 : Nat} {ra : Option Addr} {rc : Nat} {w w' : World} {Q : Exit → Act → World → Prop} {a : Act} {s16 s17 s18 s19 s20 s21 s22 s23 s24 : Value} {A : Option Addr} {N C j x v m q r c z : Nat}

set_option maxHeartbeats 8000000 in
set_option maxRecDepth 100000 in
theorem sd33 (hmk0 : ∀ w, (Instr.makeSlice 22 (.int .i64 0) (.int .i64 (n : Nat))).run Try.prog w = .ok (.slice (some ⟨w.heap.size, 0, Option.none⟩) 0 n) (w.alloc (.cells (madeCells #[.int .i64 0] n) 3)))
    (hF : Fr15b a (.int .i64 (n : Nat)) (.slice (some ⟨b5, 0, Option.none⟩) m5 n) (.slice ra n rc) (.slice (some ⟨b14, 0, Option.none⟩) n n) (s16) (s17) (s18) (s19) (s20) (s21) (s22) (s23) (s24))
    (hZ : ∀ a', Fr15b a' (.int .i64 (n : Nat)) (.slice (some ⟨b5, 0, Option.none⟩) m5 n) (.slice ra n rc) (.slice (some ⟨b14, 0, Option.none⟩) n n) (.slice (some ⟨w.heap.size, 0, Option.none⟩) 0 n) (s17) (s18) (s19) (s20) (s21) (s22) (s23) (s24) → Q .normal a' (w.alloc (.cells (madeCells #[.int .i64 0] n) 3))) :
    Code.wp Try.prog (stm Try.f15.body 10) Q a w := by
  have HZ := hide hZ
  clear hZ 
  refine fr_open15b (fun a => Code.wp Try.prog (stm Try.f15.body 10) Q a w) a hF ?_
  intro u0 u1 u2 u4 u6 u7 u8 u9 u10 u11 u12 u15 u25 u26 u27 u28 u29 u30 u31 u32 u33 u34 u35 u36 u37 u38 u39 u40 u41 u42 u43 u44 u45 u46 u47 u48 u49 u50 u51 u52 u53 u54 u55 u56 u57 u58 u59 u60 u61 u62 u63 u64 u65 u66 u67 u68 u69 u70 u71 u72 u73 u74 u75 u76 u77 u78 u79 u80 u81 u82 u83 u84 u85 u86 u87 u88 u89 u90 u91 u92 u93 u94 u95 u96 u97 u98 u99 u100 u101 u102 u103 u104 u105 u106 u107 u108 u109 u110 u111 u112 u113 u114 u115 u116 u117 u118 u119 u120 u121 u122 u123 u124 u125 u126 u127 u128 u129 u130 u131 u132 u133 u134 u135 u136 u137 u138 u139 u140 u141 u142 u143 u144 u145 u146 u147 u148 u149 u150 u151 u152 u153 u154 u155 u156 u157 u158 u159 u160 u161 u162 u163 u164 u165 u166 u167 u168 u169 u170 u171 u172 u173 u174 u175 u176 u177 u178 u179 u180 u181 u182 u183 u184 u185 u186 u187 u188 u189 u190 u191 u192 u193 u194 u195 u196 u197 u198 u199 u200 u201 u202 u203 u204 u205 u206 u207 u208 u209 u210 u211 u212 u213 u214 u215 u216 u217 u218 u219 u220 u221 u222 u223 u224 u225 u226 u227
  dsimp only
  conv => arg 2; whnf
  go_wp2_with fail
  exact unhide HZ _ ⟨rfl, rfl, rfl, rfl, rfl, rfl, rfl, rfl, rfl, rfl, rfl, rfl, rfl, rfl, rfl⟩

set_option maxHeartbeats 8000000 in
set_option maxRecDepth 100000 in
theorem sd34 (hmk0 : ∀ w, (Instr.makeSlice 22 (.int .i64 0) (.int .i64 (n : Nat))).run Try.prog w = .ok (.slice (some ⟨w.heap.size, 0, Option.none⟩) 0 n) (w.alloc (.cells (madeCells #[.int .i64 0] n) 3)))
    (hF : Fr15b a (.int .i64 (n : Nat)) (.slice (some ⟨b5, 0, Option.none⟩) m5 n) (.slice ra n rc) (.slice (some ⟨b14, 0, Option.none⟩) n n) (.slice (some ⟨b16, 0, Option.none⟩) m16 n) (s17) (s18) (s19) (s20) (s21) (s22) (s23) (s24))
    (hZ : ∀ a', Fr15b a' (.int .i64 (n : Nat)) (.slice (some ⟨b5, 0, Option.none⟩) m5 n) (.slice ra n rc) (.slice (some ⟨b14, 0, Option.none⟩) n n) (.slice (some ⟨b16, 0, Option.none⟩) m16 n) (.slice (some ⟨w.heap.size, 0, Option.none⟩) 0 n) (s18) (s19) (s20) (s21) (s22) (s23) (s24) → Q .normal a' (w.alloc (.cells (madeCells #[.int .i64 0] n) 3))) :
    Code.wp Try.prog (stm Try.f15.body 11) Q a w := by
  have HZ := hide hZ
  clear hZ 
  refine fr_open15b (fun a => Code.wp Try.prog (stm Try.f15.body 11) Q a w) a hF ?_
  intro u0 u1 u2 u4 u6 u7 u8 u9 u10 u11 u12 u15 u25 u26 u27 u28 u29 u30 u31 u32 u33 u34 u35 u36 u37 u38 u39 u40 u41 u42 u43 u44 u45 u46 u47 u48 u49 u50 u51 u52 u53 u54 u55 u56 u57 u58 u59 u60 u61 u62 u63 u64 u65 u66 u67 u68 u69 u70 u71 u72 u73 u74 u75 u76 u77 u78 u79 u80 u81 u82 u83 u84 u85 u86 u87 u88 u89 u90 u91 u92 u93 u94 u95 u96 u97 u98 u99 u100 u101 u102 u103 u104 u105 u106 u107 u108 u109 u110 u111 u112 u113 u114 u115 u116 u117 u118 u119 u120 u121 u122 u123 u124 u125 u126 u127 u128 u129 u130 u131 u132 u133 u134 u135 u136 u137 u138 u139 u140 u141 u142 u143 u144 u145 u146 u147 u148 u149 u150 u151 u152 u153 u154 u155 u156 u157 u158 u159 u160 u161 u162 u163 u164 u165 u166 u167 u168 u169 u170 u171 u172 u173 u174 u175 u176 u177 u178 u179 u180 u181 u182 u183 u184 u185 u186 u187 u188 u189 u190 u191 u192 u193 u194 u195 u196 u197 u198 u199 u200 u201 u202 u203 u204 u205 u206 u207 u208 u209 u210 u211 u212 u213 u214 u215 u216 u217 u218 u219 u220 u221 u222 u223 u224 u225 u226 u227
  dsimp only
  conv => arg 2; whnf
  go_wp2_with fail
  exact unhide HZ _ ⟨rfl, rfl, rfl, rfl, rfl, rfl, rfl, rfl, rfl, rfl, rfl, rfl, rfl, rfl, rfl⟩

set_option maxHeartbeats 8000000 in
set_option maxRecDepth 100000 in
theorem sd35 (hm : m5 ≤ 65536)
    (hF : Fr15b a (.int .i64 (n : Nat)) (.slice (some ⟨b5, 0, Option.none⟩) m5 n) (.slice ra n rc) (.slice (some ⟨b14, 0, Option.none⟩) n n) (.slice (some ⟨b16, 0, Option.none⟩) m16 n) (.slice (some ⟨b17, 0, Option.none⟩) m17 n) (s18) (s19) (s20) (s21) (s22) (s23) (s24))
    (hZ : ∀ a', Fr15b a' (.int .i64 (n : Nat)) (.slice (some ⟨b5, 0, Option.none⟩) m5 n) (.slice ra n rc) (.slice (some ⟨b14, 0, Option.none⟩) n n) (.slice (some ⟨b16, 0, Option.none⟩) m16 n) (.slice (some ⟨b17, 0, Option.none⟩) m17 n) (.int .i64 ((m5 : Int) - 1)) (s19) (s20) (s21) (s22) (s23) (s24) → Q .normal a' w) :
    Code.wp Try.prog (headC (stm Try.f15.body 12)) Q a w := by
  have HZ := hide hZ
  clear hZ 
  refine fr_open15b (fun a => Code.wp Try.prog (headC (stm Try.f15.body 12)) Q a w) a hF ?_
  intro u0 u1 u2 u4 u6 u7 u8 u9 u10 u11 u12 u15 u25 u26 u27 u28 u29 u30 u31 u32 u33 u34 u35 u36 u37 u38 u39 u40 u41 u42 u43 u44 u45 u46 u47 u48 u49 u50 u51 u52 u53 u54 u55 u56 u57 u58 u59 u60 u61 u62 u63 u64 u65 u66 u67 u68 u69 u70 u71 u72 u73 u74 u75 u76 u77 u78 u79 u80 u81 u82 u83 u84 u85 u86 u87 u88 u89 u90 u91 u92 u93 u94 u95 u96 u97 u98 u99 u100 u101 u102 u103 u104 u105 u106 u107 u108 u109 u110 u111 u112 u113 u114 u115 u116 u117 u118 u119 u120 u121 u122 u123 u124 u125 u126 u127 u128 u129 u130 u131 u132 u133 u134 u135 u136 u137 u138 u139 u140 u141 u142 u143 u144 u145 u146 u147 u148 u149 u150 u151 u152 u153 u154 u155 u156 u157 u158 u159 u160 u161 u162 u163 u164 u165 u166 u167 u168 u169 u170 u171 u172 u173 u174 u175 u176 u177 u178 u179 u180 u181 u182 u183 u184 u185 u186 u187 u188 u189 u190 u191 u192 u193 u194 u195 u196 u197 u198 u199 u200 u201 u202 u203 u204 u205 u206 u207 u208 u209 u210 u211 u212 u213 u214 u215 u216 u217 u218 u219 u220 u221 u222 u223 u224 u225 u226 u227
  dsimp only
  conv => arg 2; whnf
  go_wp2_with fail
  exact unhide HZ _ ⟨rfl, rfl, rfl, rfl, rfl, rfl, rfl, rfl, rfl, rfl, rfl, rfl, rfl, rfl, rfl⟩

set_option maxHeartbeats 8000000 in
set_option maxRecDepth 100000 in
theorem sd36 
    (hF : Fr15b a (.int .i64 (n : Nat)) (.slice (some ⟨b5, 0, Option.none⟩) m5 n) (.slice ra n rc) (.slice (some ⟨b14, 0, Option.none⟩) n n) (.slice (some ⟨b16, 0, Option.none⟩) m16 n) (.slice (some ⟨b17, 0, Option.none⟩) m17 n) (.int .i64 ((m : Int) - 1)) (s19) (s20) (s21) (s22) (s23) (s24))
    (h1 : 0 < m → ∀ a', Fr15b a' (.int .i64 (n : Nat)) (.slice (some ⟨b5, 0, Option.none⟩) m5 n) (.slice ra n rc) (.slice (some ⟨b14, 0, Option.none⟩) n n) (.slice (some ⟨b16, 0, Option.none⟩) m16 n) (.slice (some ⟨b17, 0, Option.none⟩) m17 n) (.int .i64 ((m : Int) - 1)) (s19) (s20) (s21) (s22) (s23) (s24) → Q .normal a' w)
    (h2 : ¬ 0 < m → ∀ a', Fr15b a' (.int .i64 (n : Nat)) (.slice (some ⟨b5, 0, Option.none⟩) m5 n) (.slice ra n rc) (.slice (some ⟨b14, 0, Option.none⟩) n n) (.slice (some ⟨b16, 0, Option.none⟩) m16 n) (.slice (some ⟨b17, 0, Option.none⟩) m17 n) (.int .i64 ((m : Int) - 1)) (s19) (s20) (s21) (s22) (s23) (s24) → Q (.exit 6) a' w) :
    Code.wp Try.prog (headC (innerC (innerC (tailC (stm Try.f15.body 12))))) Q a w := by
  by_cases hc : 0 < m
  · have HZ := hide (h1 hc)
    have t1 : (0 : Int) ≤ (m : Int) - 1 := by omega
    clear h1 h2 
    refine fr_open15b (fun a => Code.wp Try.prog (headC (innerC (innerC (tailC (stm Try.f15.body 12))))) Q a w) a hF ?_
    intro u0 u1 u2 u4 u6 u7 u8 u9 u10 u11 u12 u15 u25 u26 u27 u28 u29 u30 u31 u32 u33 u34 u35 u36 u37 u38 u39 u40 u41 u42 u43 u44 u45 u46 u47 u48 u49 u50 u51 u52 u53 u54 u55 u56 u57 u58 u59 u60 u61 u62 u63 u64 u65 u66 u67 u68 u69 u70 u71 u72 u73 u74 u75 u76 u77 u78 u79 u80 u81 u82 u83 u84 u85 u86 u87 u88 u89 u90 u91 u92 u93 u94 u95 u96 u97 u98 u99 u100 u101 u102 u103 u104 u105 u106 u107 u108 u109 u110 u111 u112 u113 u114 u115 u116 u117 u118 u119 u120 u121 u122 u123 u124 u125 u126 u127 u128 u129 u130 u131 u132 u133 u134 u135 u136 u137 u138 u139 u140 u141 u142 u143 u144 u145 u146 u147 u148 u149 u150 u151 u152 u153 u154 u155 u156 u157 u158 u159 u160 u161 u162 u163 u164 u165 u166 u167 u168 u169 u170 u171 u172 u173 u174 u175 u176 u177 u178 u179 u180 u181 u182 u183 u184 u185 u186 u187 u188 u189 u190 u191 u192 u193 u194 u195 u196 u197 u198 u199 u200 u201 u202 u203 u204 u205 u206 u207 u208 u209 u210 u211 u212 u213 u214 u215 u216 u217 u218 u219 u220 u221 u222 u223 u224 u225 u226 u227
    dsimp only
    conv => arg 2; whnf
    go_wp2_with fail
    exact unhide HZ _ ⟨rfl, rfl, rfl, rfl, rfl, rfl, rfl, rfl, rfl, rfl, rfl, rfl, rfl, rfl, rfl⟩
  · have HZ := hide (h2 hc)
    have t1 : ¬ (0 : Int) ≤ (m : Int) - 1 := by omega
    clear h1 h2 
    refine fr_open15b (fun a => Code.wp Try.prog (headC (innerC (innerC (tailC (stm Try.f15.body 12))))) Q a w) a hF ?_
    intro u0 u1 u2 u4 u6 u7 u8 u9 u10 u11 u12 u15 u25 u26 u27 u28 u29 u30 u31 u32 u33 u34 u35 u36 u37 u38 u39 u40 u41 u42 u43 u44 u45 u46 u47 u48 u49 u50 u51 u52 u53 u54 u55 u56 u57 u58 u59 u60 u61 u62 u63 u64 u65 u66 u67 u68 u69 u70 u71 u72 u73 u74 u75 u76 u77 u78 u79 u80 u81 u82 u83 u84 u85 u86 u87 u88 u89 u90 u91 u92 u93 u94 u95 u96 u97 u98 u99 u100 u101 u102 u103 u104 u105 u106 u107 u108 u109 u110 u111 u112 u113 u114 u115 u116 u117 u118 u119 u120 u121 u122 u123 u124 u125 u126 u127 u128 u129 u130 u131 u132 u133 u134 u135 u136 u137 u138 u139 u140 u141 u142 u143 u144 u145 u146 u147 u148 u149 u150 u151 u152 u153 u154 u155 u156 u157 u158 u159 u160 u161 u162 u163 u164 u165 u166 u167 u168 u169 u170 u171 u172 u173 u174 u175 u176 u177 u178 u179 u180 u181 u182 u183 u184 u185 u186 u187 u188 u189 u190 u191 u192 u193 u194 u195 u196 u197 u198 u199 u200 u201 u202 u203 u204 u205 u206 u207 u208 u209 u210 u211 u212 u213 u214 u215 u216 u217 u218 u219 u220 u221 u222 u223 u224 u225 u226 u227
    dsimp only
    conv => arg 2; whnf
    go_wp2_with fail
    exact unhide HZ _ ⟨rfl, rfl, rfl, rfl, rfl, rfl, rfl, rfl, rfl, rfl, rfl, rfl, rfl, rfl, rfl⟩

set_option maxHeartbeats 8000000 in
set_option maxRecDepth 100000 in
theorem sd37 (hq : q ≤ 65536)
    (hF : Fr15b a (.int .i64 (n : Nat)) (.slice (some ⟨b5, 0, Option.none⟩) m5 n) (.slice ra n rc) (.slice (some ⟨b14, 0, Option.none⟩) n n) (.slice (some ⟨b16, 0, Option.none⟩) m16 n) (.slice (some ⟨b17, 0, Option.none⟩) m17 n) (.int .i64 (q : Nat)) (s19) (s20) (s21) (s22) (s23) (s24))
    (hZ : ∀ a', Fr15b a' (.int .i64 (n : Nat)) (.slice (some ⟨b5, 0, Option.none⟩) m5 n) (.slice ra n rc) (.slice (some ⟨b14, 0, Option.none⟩) n n) (.slice (some ⟨b16, 0, Option.none⟩) m16 n) (.slice (some ⟨b17, 0, Option.none⟩) m17 n) (.int .i64 ((q : Int) - 1)) (s19) (s20) (s21) (s22) (s23) (s24) → Q .normal a' w) :
    Code.wp Try.prog (tailC (tailC (innerC (innerC (tailC (stm Try.f15.body 12)))))) Q a w := by
  have HZ := hide hZ
  clear hZ 
  refine fr_open15b (fun a => Code.wp Try.prog (tailC (tailC (innerC (innerC (tailC (stm Try.f15.body 12)))))) Q a w) a hF ?_
  intro u0 u1 u2 u4 u6 u7 u8 u9 u10 u11 u12 u15 u25 u26 u27 u28 u29 u30 u31 u32 u33 u34 u35 u36 u37 u38 u39 u40 u41 u42 u43 u44 u45 u46 u47 u48 u49 u50 u51 u52 u53 u54 u55 u56 u57 u58 u59 u60 u61 u62 u63 u64 u65 u66 u67 u68 u69 u70 u71 u72 u73 u74 u75 u76 u77 u78 u79 u80 u81 u82 u83 u84 u85 u86 u87 u88 u89 u90 u91 u92 u93 u94 u95 u96 u97 u98 u99 u100 u101 u102 u103 u104 u105 u106 u107 u108 u109 u110 u111 u112 u113 u114 u115 u116 u117 u118 u119 u120 u121 u122 u123 u124 u125 u126 u127 u128 u129 u130 u131 u132 u133 u134 u135 u136 u137 u138 u139 u140 u141 u142 u143 u144 u145 u146 u147 u148 u149 u150 u151 u152 u153 u154 u155 u156 u157 u158 u159 u160 u161 u162 u163 u164 u165 u166 u167 u168 u169 u170 u171 u172 u173 u174 u175 u176 u177 u178 u179 u180 u181 u182 u183 u184 u185 u186 u187 u188 u189 u190 u191 u192 u193 u194 u195 u196 u197 u198 u199 u200 u201 u202 u203 u204 u205 u206 u207 u208 u209 u210 u211 u212 u213 u214 u215 u216 u217 u218 u219 u220 u221 u222 u223 u224 u225 u226 u227
  dsimp only
  conv => arg 2; whnf
  go_wp2_with fail
  exact unhide HZ _ ⟨rfl, rfl, rfl, rfl, rfl, rfl, rfl, rfl, rfl, rfl, rfl, rfl, rfl, rfl, rfl⟩

set_option maxHeartbeats 8000000 in
set_option maxRecDepth 100000 in
theorem sd38 (hq : q < m5) (d1 : w.cell? ⟨b5, q, Option.none⟩ = some (.int .i64 (r : Nat)))
    (hF : Fr15b a (.int .i64 (n : Nat)) (.slice (some ⟨b5, 0, Option.none⟩) m5 n) (.slice ra n rc) (.slice (some ⟨b14, 0, Option.none⟩) n n) (.slice (some ⟨b16, 0, Option.none⟩) m16 n) (.slice (some ⟨b17, 0, Option.none⟩) m17 n) (.int .i64 (q : Nat)) (s19) (s20) (s21) (s22) (s23) (s24))
    (hZ : ∀ a', Fr15b a' (.int .i64 (n : Nat)) (.slice (some ⟨b5, 0, Option.none⟩) m5 n) (.slice ra n rc) (.slice (some ⟨b14, 0, Option.none⟩) n n) (.slice (some ⟨b16, 0, Option.none⟩) m16 n) (.slice (some ⟨b17, 0, Option.none⟩) m17 n) (.int .i64 (q : Nat)) (.int .i64 (r : Nat)) (s20) (s21) (s22) (s23) (s24) → Q .normal a' w) :
    Code.wp Try.prog (headC (innerC (headC (tailC (innerC (innerC (tailC (stm Try.f15.body 12)))))))) Q a w := by
  have HZ := hide hZ
  have lq : (q : Int) < (m5 : Int) := by omega
  clear hZ 
  refine fr_open15b (fun a => Code.wp Try.prog (headC (innerC (headC (tailC (innerC (innerC (tailC (stm Try.f15.body 12)))))))) Q a w) a hF ?_
  intro u0 u1 u2 u4 u6 u7 u8 u9 u10 u11 u12 u15 u25 u26 u27 u28 u29 u30 u31 u32 u33 u34 u35 u36 u37 u38 u39 u40 u41 u42 u43 u44 u45 u46 u47 u48 u49 u50 u51 u52 u53 u54 u55 u56 u57 u58 u59 u60 u61 u62 u63 u64 u65 u66 u67 u68 u69 u70 u71 u72 u73 u74 u75 u76 u77 u78 u79 u80 u81 u82 u83 u84 u85 u86 u87 u88 u89 u90 u91 u92 u93 u94 u95 u96 u97 u98 u99 u100 u101 u102 u103 u104 u105 u106 u107 u108 u109 u110 u111 u112 u113 u114 u115 u116 u117 u118 u119 u120 u121 u122 u123 u124 u125 u126 u127 u128 u129 u130 u131 u132 u133 u134 u135 u136 u137 u138 u139 u140 u141 u142 u143 u144 u145 u146 u147 u148 u149 u150 u151 u152 u153 u154 u155 u156 u157 u158 u159 u160 u161 u162 u163 u164 u165 u166 u167 u168 u169 u170 u171 u172 u173 u174 u175 u176 u177 u178 u179 u180 u181 u182 u183 u184 u185 u186 u187 u188 u189 u190 u191 u192 u193 u194 u195 u196 u197 u198 u199 u200 u201 u202 u203 u204 u205 u206 u207 u208 u209 u210 u211 u212 u213 u214 u215 u216 u217 u218 u219 u220 u221 u222 u223 u224 u225 u226 u227
  dsimp only
  conv => arg 2; whnf
  go_wp2_with fail
  exact unhide HZ _ ⟨rfl, rfl, rfl, rfl, rfl, rfl, rfl, rfl, rfl, rfl, rfl, rfl, rfl, rfl, rfl⟩

set_option maxHeartbeats 8000000 in
set_option maxRecDepth 100000 in
theorem sd39 (X Y : Code) {p : Int} (hr : r < n) (d1 : w.cell? ⟨b14, r, Option.none⟩ = some (.int .i64 p))
    (hF : Fr15b a (.int .i64 (n : Nat)) (.slice (some ⟨b5, 0, Option.none⟩) m5 n) (.slice ra n rc) (.slice (some ⟨b14, 0, Option.none⟩) n n) (.slice (some ⟨b16, 0, Option.none⟩) m16 n) (.slice (some ⟨b17, 0, Option.none⟩) m17 n) (s18) (.int .i64 (r : Nat)) (s20) (s21) (s22) (s23) (s24))
    (h1 : 0 ≤ p → ∀ a', Fr15b a' (.int .i64 (n : Nat)) (.slice (some ⟨b5, 0, Option.none⟩) m5 n) (.slice ra n rc) (.slice (some ⟨b14, 0, Option.none⟩) n n) (.slice (some ⟨b16, 0, Option.none⟩) m16 n) (.slice (some ⟨b17, 0, Option.none⟩) m17 n) (s18) (.int .i64 (r : Nat)) (s20) (s21) (s22) (s23) (s24) → Code.wp Try.prog X Q a' w)
    (h2 : ¬ 0 ≤ p → ∀ a', Fr15b a' (.int .i64 (n : Nat)) (.slice (some ⟨b5, 0, Option.none⟩) m5 n) (.slice ra n rc) (.slice (some ⟨b14, 0, Option.none⟩) n n) (.slice (some ⟨b16, 0, Option.none⟩) m16 n) (.slice (some ⟨b17, 0, Option.none⟩) m17 n) (s18) (.int .i64 (r : Nat)) (s20) (s21) (s22) (s23) (s24) → Code.wp Try.prog Y Q a' w) :
    Code.wp Try.prog (.seq (headC (headC (tailC (innerC (headC (tailC (innerC (innerC (tailC (stm Try.f15.body 12)))))))))) (.cond (.tmp 145) X Y)) Q a w := by
  have lk : ((r : Nat) : Int) < (n : Int) := by omega
  by_cases hc : 0 ≤ p
  · have HZ := hide (h1 hc)
    have t1 : decide (0 ≤ p) = true := decide_eq_true hc
    clear h1 h2 
    refine fr_open15b (fun a => Code.wp Try.prog (.seq (headC (headC (tailC (innerC (headC (tailC (innerC (innerC (tailC (stm Try.f15.body 12)))))))))) (.cond (.tmp 145) X Y)) Q a w) a hF ?_
    intro u0 u1 u2 u4 u6 u7 u8 u9 u10 u11 u12 u15 u25 u26 u27 u28 u29 u30 u31 u32 u33 u34 u35 u36 u37 u38 u39 u40 u41 u42 u43 u44 u45 u46 u47 u48 u49 u50 u51 u52 u53 u54 u55 u56 u57 u58 u59 u60 u61 u62 u63 u64 u65 u66 u67 u68 u69 u70 u71 u72 u73 u74 u75 u76 u77 u78 u79 u80 u81 u82 u83 u84 u85 u86 u87 u88 u89 u90 u91 u92 u93 u94 u95 u96 u97 u98 u99 u100 u101 u102 u103 u104 u105 u106 u107 u108 u109 u110 u111 u112 u113 u114 u115 u116 u117 u118 u119 u120 u121 u122 u123 u124 u125 u126 u127 u128 u129 u130 u131 u132 u133 u134 u135 u136 u137 u138 u139 u140 u141 u142 u143 u144 u145 u146 u147 u148 u149 u150 u151 u152 u153 u154 u155 u156 u157 u158 u159 u160 u161 u162 u163 u164 u165 u166 u167 u168 u169 u170 u171 u172 u173 u174 u175 u176 u177 u178 u179 u180 u181 u182 u183 u184 u185 u186 u187 u188 u189 u190 u191 u192 u193 u194 u195 u196 u197 u198 u199 u200 u201 u202 u203 u204 u205 u206 u207 u208 u209 u210 u211 u212 u213 u214 u215 u216 u217 u218 u219 u220 u221 u222 u223 u224 u225 u226 u227
    dsimp only
    conv => arg 2; arg 1; whnf
    go_wp2_with fail
    exact unhide HZ _ ⟨rfl, rfl, rfl, rfl, rfl, rfl, rfl, rfl, rfl, rfl, rfl, rfl, rfl, rfl, rfl⟩
  · have HZ := hide (h2 hc)
    have t1 : decide (0 ≤ p) = false := decide_eq_false hc
    clear h1 h2 
    refine fr_open15b (fun a => Code.wp Try.prog (.seq (headC (headC (tailC (innerC (headC (tailC (innerC (innerC (tailC (stm Try.f15.body 12)))))))))) (.cond (.tmp 145) X Y)) Q a w) a hF ?_
    intro u0 u1 u2 u4 u6 u7 u8 u9 u10 u11 u12 u15 u25 u26 u27 u28 u29 u30 u31 u32 u33 u34 u35 u36 u37 u38 u39 u40 u41 u42 u43 u44 u45 u46 u47 u48 u49 u50 u51 u52 u53 u54 u55 u56 u57 u58 u59 u60 u61 u62 u63 u64 u65 u66 u67 u68 u69 u70 u71 u72 u73 u74 u75 u76 u77 u78 u79 u80 u81 u82 u83 u84 u85 u86 u87 u88 u89 u90 u91 u92 u93 u94 u95 u96 u97 u98 u99 u100 u101 u102 u103 u104 u105 u106 u107 u108 u109 u110 u111 u112 u113 u114 u115 u116 u117 u118 u119 u120 u121 u122 u123 u124 u125 u126 u127 u128 u129 u130 u131 u132 u133 u134 u135 u136 u137 u138 u139 u140 u141 u142 u143 u144 u145 u146 u147 u148 u149 u150 u151 u152 u153 u154 u155 u156 u157 u158 u159 u160 u161 u162 u163 u164 u165 u166 u167 u168 u169 u170 u171 u172 u173 u174 u175 u176 u177 u178 u179 u180 u181 u182 u183 u184 u185 u186 u187 u188 u189 u190 u191 u192 u193 u194 u195 u196 u197 u198 u199 u200 u201 u202 u203 u204 u205 u206 u207 u208 u209 u210 u211 u212 u213 u214 u215 u216 u217 u218 u219 u220 u221 u222 u223 u224 u225 u226 u227
    dsimp only
    conv => arg 2; arg 1; whnf
    go_wp2_with fail
    exact unhide HZ _ ⟨rfl, rfl, rfl, rfl, rfl, rfl, rfl, rfl, rfl, rfl, rfl, rfl, rfl, rfl, rfl⟩

set_option maxHeartbeats 8000000 in
set_option maxRecDepth 100000 in
theorem sd40 
    (hF : Fr15b a (.int .i64 (n : Nat)) (.slice (some ⟨b5, 0, Option.none⟩) m5 n) (.slice ra n rc) (.slice (some ⟨b14, 0, Option.none⟩) n n) (.slice (some ⟨b16, 0, Option.none⟩) m16 n) (.slice (some ⟨b17, 0, Option.none⟩) m17 n) (s18) (s19) (s20) (s21) (s22) (s23) (s24))
    (hZ : ∀ a', Fr15b a' (.int .i64 (n : Nat)) (.slice (some ⟨b5, 0, Option.none⟩) m5 n) (.slice ra n rc) (.slice (some ⟨b14, 0, Option.none⟩) n n) (.slice (some ⟨b16, 0, Option.none⟩) m16 n) (.slice (some ⟨b17, 0, Option.none⟩) m17 n) (s18) (s19) (.int .i64 (m16 : Nat)) (s21) (s22) (s23) (s24) → Q .normal a' w) :
    Code.wp Try.prog (headC (tailC (tailC (innerC (headC (tailC (innerC (innerC (tailC (stm Try.f15.body 12)))))))))) Q a w := by
  have HZ := hide hZ
  clear hZ 
  refine fr_open15b (fun a => Code.wp Try.prog (headC (tailC (tailC (innerC (headC (tailC (innerC (innerC (tailC (stm Try.f15.body 12)))))))))) Q a w) a hF ?_
  intro u0 u1 u2 u4 u6 u7 u8 u9 u10 u11 u12 u15 u25 u26 u27 u28 u29 u30 u31 u32 u33 u34 u35 u36 u37 u38 u39 u40 u41 u42 u43 u44 u45 u46 u47 u48 u49 u50 u51 u52 u53 u54 u55 u56 u57 u58 u59 u60 u61 u62 u63 u64 u65 u66 u67 u68 u69 u70 u71 u72 u73 u74 u75 u76 u77 u78 u79 u80 u81 u82 u83 u84 u85 u86 u87 u88 u89 u90 u91 u92 u93 u94 u95 u96 u97 u98 u99 u100 u101 u102 u103 u104 u105 u106 u107 u108 u109 u110 u111 u112 u113 u114 u115 u116 u117 u118 u119 u120 u121 u122 u123 u124 u125 u126 u127 u128 u129 u130 u131 u132 u133 u134 u135 u136 u137 u138 u139 u140 u141 u142 u143 u144 u145 u146 u147 u148 u149 u150 u151 u152 u153 u154 u155 u156 u157 u158 u159 u160 u161 u162 u163 u164 u165 u166 u167 u168 u169 u170 u171 u172 u173 u174 u175 u176 u177 u178 u179 u180 u181 u182 u183 u184 u185 u186 u187 u188 u189 u190 u191 u192 u193 u194 u195 u196 u197 u198 u199 u200 u201 u202 u203 u204 u205 u206 u207 u208 u209 u210 u211 u212 u213 u214 u215 u216 u217 u218 u219 u220 u221 u222 u223 u224 u225 u226 u227
  dsimp only
  conv => arg 2; whnf
  go_wp2_with fail
  exact unhide HZ _ ⟨rfl, rfl, rfl, rfl, rfl, rfl, rfl, rfl, rfl, rfl, rfl, rfl, rfl, rfl, rfl⟩

set_option maxHeartbeats 8000000 in
set_option maxRecDepth 100000 in
theorem sd41 (hrun : (Builtin.append_ #[22, 22] 22 #[.slice (some ⟨b16, 0, Option.none⟩) m16 n, .slice (some ⟨w.heap.size, 0, Option.none⟩) 1 1]).run Try.prog (w.alloc (.cells #[.int .i64 0] 3)) = .ok (.slice (some ⟨b16, 0, Option.none⟩) (m16 + 1) n) w')
    (hF : Fr15b a (.int .i64 (n : Nat)) (.slice (some ⟨b5, 0, Option.none⟩) m5 n) (.slice ra n rc) (.slice (some ⟨b14, 0, Option.none⟩) n n) (.slice (some ⟨b16, 0, Option.none⟩) m16 n) (.slice (some ⟨b17, 0, Option.none⟩) m17 n) (s18) (s19) (s20) (s21) (s22) (s23) (s24))
    (hZ : ∀ a', Fr15b a' (.int .i64 (n : Nat)) (.slice (some ⟨b5, 0, Option.none⟩) m5 n) (.slice ra n rc) (.slice (some ⟨b14, 0, Option.none⟩) n n) (.slice (some ⟨b16, 0, Option.none⟩) (m16 + 1) n) (.slice (some ⟨b17, 0, Option.none⟩) m17 n) (s18) (s19) (s20) (s21) (s22) (s23) (s24) → Q .normal a' w') :
    Code.wp Try.prog (headC (tailC (tailC (tailC (innerC (headC (tailC (innerC (innerC (tailC (stm Try.f15.body 12))))))))))) Q a w := by
  have HZ := hide hZ
  clear hZ 
  refine fr_open15b (fun a => Code.wp Try.prog (headC (tailC (tailC (tailC (innerC (headC (tailC (innerC (innerC (tailC (stm Try.f15.body 12))))))))))) Q a w) a hF ?_
  intro u0 u1 u2 u4 u6 u7 u8 u9 u10 u11 u12 u15 u25 u26 u27 u28 u29 u30 u31 u32 u33 u34 u35 u36 u37 u38 u39 u40 u41 u42 u43 u44 u45 u46 u47 u48 u49 u50 u51 u52 u53 u54 u55 u56 u57 u58 u59 u60 u61 u62 u63 u64 u65 u66 u67 u68 u69 u70 u71 u72 u73 u74 u75 u76 u77 u78 u79 u80 u81 u82 u83 u84 u85 u86 u87 u88 u89 u90 u91 u92 u93 u94 u95 u96 u97 u98 u99 u100 u101 u102 u103 u104 u105 u106 u107 u108 u109 u110 u111 u112 u113 u114 u115 u116 u117 u118 u119 u120 u121 u122 u123 u124 u125 u126 u127 u128 u129 u130 u131 u132 u133 u134 u135 u136 u137 u138 u139 u140 u141 u142 u143 u144 u145 u146 u147 u148 u149 u150 u151 u152 u153 u154 u155 u156 u157 u158 u159 u160 u161 u162 u163 u164 u165 u166 u167 u168 u169 u170 u171 u172 u173 u174 u175 u176 u177 u178 u179 u180 u181 u182 u183 u184 u185 u186 u187 u188 u189 u190 u191 u192 u193 u194 u195 u196 u197 u198 u199 u200 u201 u202 u203 u204 u205 u206 u207 u208 u209 u210 u211 u212 u213 u214 u215 u216 u217 u218 u219 u220 u221 u222 u223 u224 u225 u226 u227
  dsimp only
  conv => arg 2; whnf
  go_wp2_with (at_builtin; refine Lib.wpList_append_run _ rfl _ _ _ _ rfl _ _ rfl rfl _ _ hrun ?_)
  exact unhide HZ _ ⟨rfl, rfl, rfl, rfl, rfl, rfl, rfl, rfl, rfl, rfl, rfl, rfl, rfl, rfl, rfl⟩

set_option maxHeartbeats 8000000 in
set_option maxRecDepth 100000 in
theorem sd42 (hx : r < n) (d1 : (w.cell? ⟨b14, r, Option.none⟩).isSome = true) (f1 : w.frozen? ⟨b14, r, Option.none⟩ = false)
    (hF : Fr15b a (.int .i64 (n : Nat)) (.slice (some ⟨b5, 0, Option.none⟩) m5 n) (.slice ra n rc) (.slice (some ⟨b14, 0, Option.none⟩) n n) (.slice (some ⟨b16, 0, Option.none⟩) m16 n) (.slice (some ⟨b17, 0, Option.none⟩) m17 n) (s18) (.int .i64 (r : Nat)) (.int .i64 (c : Nat)) (s21) (s22) (s23) (s24))
    (hZ : ∀ a', Fr15b a' (.int .i64 (n : Nat)) (.slice (some ⟨b5, 0, Option.none⟩) m5 n) (.slice ra n rc) (.slice (some ⟨b14, 0, Option.none⟩) n n) (.slice (some ⟨b16, 0, Option.none⟩) m16 n) (.slice (some ⟨b17, 0, Option.none⟩) m17 n) (s18) (.int .i64 (r : Nat)) (.int .i64 (c : Nat)) (s21) (s22) (s23) (s24) → Q .normal a' (w.setCell ⟨b14, r, Option.none⟩ (.int .i64 (c : Nat)))) :
    Code.wp Try.prog (headC (tailC (tailC (tailC (tailC (innerC (headC (tailC (innerC (innerC (tailC (stm Try.f15.body 12)))))))))))) Q a w := by
  have HZ := hide hZ
  obtain ⟨d, d1⟩ := Option.isSome_iff_exists.1 d1
  have lk : ((r : Nat) : Int) < (n : Int) := by omega
  clear hZ 
  refine fr_open15b (fun a => Code.wp Try.prog (headC (tailC (tailC (tailC (tailC (innerC (headC (tailC (innerC (innerC (tailC (stm Try.f15.body 12)))))))))))) Q a w) a hF ?_
  intro u0 u1 u2 u4 u6 u7 u8 u9 u10 u11 u12 u15 u25 u26 u27 u28 u29 u30 u31 u32 u33 u34 u35 u36 u37 u38 u39 u40 u41 u42 u43 u44 u45 u46 u47 u48 u49 u50 u51 u52 u53 u54 u55 u56 u57 u58 u59 u60 u61 u62 u63 u64 u65 u66 u67 u68 u69 u70 u71 u72 u73 u74 u75 u76 u77 u78 u79 u80 u81 u82 u83 u84 u85 u86 u87 u88 u89 u90 u91 u92 u93 u94 u95 u96 u97 u98 u99 u100 u101 u102 u103 u104 u105 u106 u107 u108 u109 u110 u111 u112 u113 u114 u115 u116 u117 u118 u119 u120 u121 u122 u123 u124 u125 u126 u127 u128 u129 u130 u131 u132 u133 u134 u135 u136 u137 u138 u139 u140 u141 u142 u143 u144 u145 u146 u147 u148 u149 u150 u151 u152 u153 u154 u155 u156 u157 u158 u159 u160 u161 u162 u163 u164 u165 u166 u167 u168 u169 u170 u171 u172 u173 u174 u175 u176 u177 u178 u179 u180 u181 u182 u183 u184 u185 u186 u187 u188 u189 u190 u191 u192 u193 u194 u195 u196 u197 u198 u199 u200 u201 u202 u203 u204 u205 u206 u207 u208 u209 u210 u211 u212 u213 u214 u215 u216 u217 u218 u219 u220 u221 u222 u223 u224 u225 u226 u227
  dsimp only
  conv => arg 2; whnf
  go_wp2_with fail
  exact unhide HZ _ ⟨rfl, rfl, rfl, rfl, rfl, rfl, rfl, rfl, rfl, rfl, rfl, rfl, rfl, rfl, rfl⟩

set_option maxHeartbeats 8000000 in
set_option maxRecDepth 100000 in
theorem sd43 (hn : 0 < n)
    (hF : Fr15b a (.int .i64 (n : Nat)) (.slice (some ⟨b5, 0, Option.none⟩) m5 n) (.slice ra n rc) (.slice (some ⟨b14, 0, Option.none⟩) n n) (.slice (some ⟨b16, 0, Option.none⟩) m16 n) (.slice (some ⟨b17, 0, Option.none⟩) m17 n) (s18) (s19) (s20) (s21) (s22) (s23) (s24))
    (hZ : ∀ a', Fr15b a' (.int .i64 (n : Nat)) (.slice (some ⟨b5, 0, Option.none⟩) m5 n) (.slice ra n rc) (.slice (some ⟨b14, 0, Option.none⟩) n n) (.slice (some ⟨b16, 0, Option.none⟩) m16 n) (.slice (some ⟨b17, 0, Option.none⟩) 0 n) (s18) (s19) (s20) (s21) (s22) (s23) (s24) → Q .normal a' w) :
    Code.wp Try.prog (headC (tailC (tailC (tailC (tailC (tailC (innerC (headC (tailC (innerC (innerC (tailC (stm Try.f15.body 12))))))))))))) Q a w := by
  have HZ := hide hZ
  have l3 : ¬ n = 0 := by omega
  clear hZ 
  refine fr_open15b (fun a => Code.wp Try.prog (headC (tailC (tailC (tailC (tailC (tailC (innerC (headC (tailC (innerC (innerC (tailC (stm Try.f15.body 12))))))))))))) Q a w) a hF ?_
  intro u0 u1 u2 u4 u6 u7 u8 u9 u10 u11 u12 u15 u25 u26 u27 u28 u29 u30 u31 u32 u33 u34 u35 u36 u37 u38 u39 u40 u41 u42 u43 u44 u45 u46 u47 u48 u49 u50 u51 u52 u53 u54 u55 u56 u57 u58 u59 u60 u61 u62 u63 u64 u65 u66 u67 u68 u69 u70 u71 u72 u73 u74 u75 u76 u77 u78 u79 u80 u81 u82 u83 u84 u85 u86 u87 u88 u89 u90 u91 u92 u93 u94 u95 u96 u97 u98 u99 u100 u101 u102 u103 u104 u105 u106 u107 u108 u109 u110 u111 u112 u113 u114 u115 u116 u117 u118 u119 u120 u121 u122 u123 u124 u125 u126 u127 u128 u129 u130 u131 u132 u133 u134 u135 u136 u137 u138 u139 u140 u141 u142 u143 u144 u145 u146 u147 u148 u149 u150 u151 u152 u153 u154 u155 u156 u157 u158 u159 u160 u161 u162 u163 u164 u165 u166 u167 u168 u169 u170 u171 u172 u173 u174 u175 u176 u177 u178 u179 u180 u181 u182 u183 u184 u185 u186 u187 u188 u189 u190 u191 u192 u193 u194 u195 u196 u197 u198 u199 u200 u201 u202 u203 u204 u205 u206 u207 u208 u209 u210 u211 u212 u213 u214 u215 u216 u217 u218 u219 u220 u221 u222 u223 u224 u225 u226 u227
  dsimp only
  conv => arg 2; whnf
  go_wp2_with fail
  exact unhide HZ _ ⟨rfl, rfl, rfl, rfl, rfl, rfl, rfl, rfl, rfl, rfl, rfl, rfl, rfl, rfl, rfl⟩

set_option maxHeartbeats 8000000 in
set_option maxRecDepth 100000 in
theorem sd44 (hrun : (Builtin.append_ #[22, 22] 22 #[.slice (some ⟨b17, 0, Option.none⟩) m17 n, .slice (some ⟨w.heap.size, 0, Option.none⟩) 1 1]).run Try.prog (w.alloc (.cells #[.int .i64 (r : Nat)] 3)) = .ok (.slice (some ⟨b17, 0, Option.none⟩) (m17 + 1) n) w')
    (hF : Fr15b a (.int .i64 (n : Nat)) (.slice (some ⟨b5, 0, Option.none⟩) m5 n) (.slice ra n rc) (.slice (some ⟨b14, 0, Option.none⟩) n n) (.slice (some ⟨b16, 0, Option.none⟩) m16 n) (.slice (some ⟨b17, 0, Option.none⟩) m17 n) (s18) (.int .i64 (r : Nat)) (s20) (s21) (s22) (s23) (s24))
    (hZ : ∀ a', Fr15b a' (.int .i64 (n : Nat)) (.slice (some ⟨b5, 0, Option.none⟩) m5 n) (.slice ra n rc) (.slice (some ⟨b14, 0, Option.none⟩) n n) (.slice (some ⟨b16, 0, Option.none⟩) m16 n) (.slice (some ⟨b17, 0, Option.none⟩) (m17 + 1) n) (s18) (.int .i64 (r : Nat)) (s20) (s21) (s22) (s23) (s24) → Q .normal a' w') :
    Code.wp Try.prog (headC (tailC (tailC (tailC (tailC (tailC (tailC (innerC (headC (tailC (innerC (innerC (tailC (stm Try.f15.body 12)))))))))))))) Q a w := by
  have HZ := hide hZ
  clear hZ 
  refine fr_open15b (fun a => Code.wp Try.prog (headC (tailC (tailC (tailC (tailC (tailC (tailC (innerC (headC (tailC (innerC (innerC (tailC (stm Try.f15.body 12)))))))))))))) Q a w) a hF ?_
  intro u0 u1 u2 u4 u6 u7 u8 u9 u10 u11 u12 u15 u25 u26 u27 u28 u29 u30 u31 u32 u33 u34 u35 u36 u37 u38 u39 u40 u41 u42 u43 u44 u45 u46 u47 u48 u49 u50 u51 u52 u53 u54 u55 u56 u57 u58 u59 u60 u61 u62 u63 u64 u65 u66 u67 u68 u69 u70 u71 u72 u73 u74 u75 u76 u77 u78 u79 u80 u81 u82 u83 u84 u85 u86 u87 u88 u89 u90 u91 u92 u93 u94 u95 u96 u97 u98 u99 u100 u101 u102 u103 u104 u105 u106 u107 u108 u109 u110 u111 u112 u113 u114 u115 u116 u117 u118 u119 u120 u121 u122 u123 u124 u125 u126 u127 u128 u129 u130 u131 u132 u133 u134 u135 u136 u137 u138 u139 u140 u141 u142 u143 u144 u145 u146 u147 u148 u149 u150 u151 u152 u153 u154 u155 u156 u157 u158 u159 u160 u161 u162 u163 u164 u165 u166 u167 u168 u169 u170 u171 u172 u173 u174 u175 u176 u177 u178 u179 u180 u181 u182 u183 u184 u185 u186 u187 u188 u189 u190 u191 u192 u193 u194 u195 u196 u197 u198 u199 u200 u201 u202 u203 u204 u205 u206 u207 u208 u209 u210 u211 u212 u213 u214 u215 u216 u217 u218 u219 u220 u221 u222 u223 u224 u225 u226 u227
  dsimp only
  conv => arg 2; whnf
  go_wp2_with (at_builtin; refine Lib.wpList_append_run _ rfl _ _ _ _ rfl _ _ rfl rfl _ _ hrun ?_)
  exact unhide HZ _ ⟨rfl, rfl, rfl, rfl, rfl, rfl, rfl, rfl, rfl, rfl, rfl, rfl, rfl, rfl, rfl⟩

end Go.Proofs.Qxb6602460a
