import Derived.Test.Qxb6602460aSccF
namespace Go.Proofs.Qxb6602460a
open Go.RowKit Go.Maps Go.Own

variable {n b4 b5 b6 b7 m5 m6 m7 : Nat} {oa : Option Addr} {oc : Nat} {w w' : World} {Q : Exit → Act → World → Prop} {a : Act} {s8 s9 s10 s11 s12 : Value} {A : Option Addr} {N C k x v m top : Nat}

set_option maxHeartbeats 8000000 in
set_option maxRecDepth 100000 in
theorem sc6 
    (hF : Fr15 a (.slice oa n oc) (.int .i64 (n : Nat)) (.slice (some ⟨b4, 0, Option.none⟩) n n) (.slice (some ⟨b5, 0, Option.none⟩) m5 n) (.slice (some ⟨b6, 0, Option.none⟩) m6 n) (.slice (some ⟨b7, 0, Option.none⟩) m7 n) (s8) (s9) (s10) (s11) (s12))
    (hZ : ∀ a', Fr15 a' (.slice oa n oc) (.int .i64 (n : Nat)) (.slice (some ⟨b4, 0, Option.none⟩) n n) (.slice (some ⟨b5, 0, Option.none⟩) m5 n) (.slice (some ⟨b6, 0, Option.none⟩) m6 n) (.slice (some ⟨b7, 0, Option.none⟩) m7 n) (.int .i64 0) (s9) (s10) (s11) (s12) → Q .normal a' w) :
    Code.wp Try.prog (headC (stm Try.f15.body 6)) Q a w := by
  have HZ := hide hZ
  clear hZ 
  refine fr_open15 (fun a => Code.wp Try.prog (headC (stm Try.f15.body 6)) Q a w) a hF ?_
  intro u1 u2 u13 u14 u15 u16 u17 u18 u19 u20 u21 u22 u23 u24 u25 u26 u27 u28 u29 u30 u31 u32 u33 u34 u35 u36 u37 u38 u39 u40 u41 u42 u43 u44 u45 u46 u47 u48 u49 u50 u51 u52 u53 u54 u55 u56 u57 u58 u59 u60 u61 u62 u63 u64 u65 u66 u67 u68 u69 u70 u71 u72 u73 u74 u75 u76 u77 u78 u79 u80 u81 u82 u83 u84 u85 u86 u87 u88 u89 u90 u91 u92 u93 u94 u95 u96 u97 u98 u99 u100 u101 u102 u103 u104 u105 u106 u107 u108 u109 u110 u111 u112 u113 u114 u115 u116 u117 u118 u119 u120 u121 u122 u123 u124 u125 u126 u127 u128 u129 u130 u131 u132 u133 u134 u135 u136 u137 u138 u139 u140 u141 u142 u143 u144 u145 u146 u147 u148 u149 u150 u151 u152 u153 u154 u155 u156 u157 u158 u159 u160 u161 u162 u163 u164 u165 u166 u167 u168 u169 u170 u171 u172 u173 u174 u175 u176 u177 u178 u179 u180 u181 u182 u183 u184 u185 u186 u187 u188 u189 u190 u191 u192 u193 u194 u195 u196 u197 u198 u199 u200 u201 u202 u203 u204 u205 u206 u207 u208 u209 u210 u211 u212 u213 u214 u215 u216 u217 u218 u219 u220 u221 u222 u223 u224 u225 u226 u227
  dsimp only
  conv => arg 2; whnf
  go_wp2_with fail
  exact unhide HZ _ ⟨rfl, rfl, rfl, rfl, rfl, rfl, rfl, rfl, rfl, rfl, rfl, rfl, rfl⟩

set_option maxHeartbeats 8000000 in
set_option maxRecDepth 100000 in
theorem sc7 
    (hF : Fr15 a (.slice oa n oc) (.int .i64 (n : Nat)) (.slice (some ⟨b4, 0, Option.none⟩) n n) (.slice (some ⟨b5, 0, Option.none⟩) m5 n) (.slice (some ⟨b6, 0, Option.none⟩) m6 n) (.slice (some ⟨b7, 0, Option.none⟩) m7 n) (.int .i64 (k : Nat)) (s9) (s10) (s11) (s12))
    (h1 : k < n → ∀ a', Fr15 a' (.slice oa n oc) (.int .i64 (n : Nat)) (.slice (some ⟨b4, 0, Option.none⟩) n n) (.slice (some ⟨b5, 0, Option.none⟩) m5 n) (.slice (some ⟨b6, 0, Option.none⟩) m6 n) (.slice (some ⟨b7, 0, Option.none⟩) m7 n) (.int .i64 (k : Nat)) (s9) (s10) (s11) (s12) → Q .normal a' w)
    (h2 : ¬ k < n → ∀ a', Fr15 a' (.slice oa n oc) (.int .i64 (n : Nat)) (.slice (some ⟨b4, 0, Option.none⟩) n n) (.slice (some ⟨b5, 0, Option.none⟩) m5 n) (.slice (some ⟨b6, 0, Option.none⟩) m6 n) (.slice (some ⟨b7, 0, Option.none⟩) m7 n) (.int .i64 (k : Nat)) (s9) (s10) (s11) (s12) → Q (.exit 0) a' w) :
    Code.wp Try.prog (headC (innerC (innerC (tailC (stm Try.f15.body 6))))) Q a w := by
  by_cases hc : k < n
  · have HZ := hide (h1 hc)
    have t1 : (k : Int) < (n : Int) := by omega
    clear h1 h2 
    refine fr_open15 (fun a => Code.wp Try.prog (headC (innerC (innerC (tailC (stm Try.f15.body 6))))) Q a w) a hF ?_
    intro u1 u2 u13 u14 u15 u16 u17 u18 u19 u20 u21 u22 u23 u24 u25 u26 u27 u28 u29 u30 u31 u32 u33 u34 u35 u36 u37 u38 u39 u40 u41 u42 u43 u44 u45 u46 u47 u48 u49 u50 u51 u52 u53 u54 u55 u56 u57 u58 u59 u60 u61 u62 u63 u64 u65 u66 u67 u68 u69 u70 u71 u72 u73 u74 u75 u76 u77 u78 u79 u80 u81 u82 u83 u84 u85 u86 u87 u88 u89 u90 u91 u92 u93 u94 u95 u96 u97 u98 u99 u100 u101 u102 u103 u104 u105 u106 u107 u108 u109 u110 u111 u112 u113 u114 u115 u116 u117 u118 u119 u120 u121 u122 u123 u124 u125 u126 u127 u128 u129 u130 u131 u132 u133 u134 u135 u136 u137 u138 u139 u140 u141 u142 u143 u144 u145 u146 u147 u148 u149 u150 u151 u152 u153 u154 u155 u156 u157 u158 u159 u160 u161 u162 u163 u164 u165 u166 u167 u168 u169 u170 u171 u172 u173 u174 u175 u176 u177 u178 u179 u180 u181 u182 u183 u184 u185 u186 u187 u188 u189 u190 u191 u192 u193 u194 u195 u196 u197 u198 u199 u200 u201 u202 u203 u204 u205 u206 u207 u208 u209 u210 u211 u212 u213 u214 u215 u216 u217 u218 u219 u220 u221 u222 u223 u224 u225 u226 u227
    dsimp only
    conv => arg 2; whnf
    go_wp2_with fail
    exact unhide HZ _ ⟨rfl, rfl, rfl, rfl, rfl, rfl, rfl, rfl, rfl, rfl, rfl, rfl, rfl⟩
  · have HZ := hide (h2 hc)
    have t1 : ¬ (k : Int) < (n : Int) := by omega
    clear h1 h2 
    refine fr_open15 (fun a => Code.wp Try.prog (headC (innerC (innerC (tailC (stm Try.f15.body 6))))) Q a w) a hF ?_
    intro u1 u2 u13 u14 u15 u16 u17 u18 u19 u20 u21 u22 u23 u24 u25 u26 u27 u28 u29 u30 u31 u32 u33 u34 u35 u36 u37 u38 u39 u40 u41 u42 u43 u44 u45 u46 u47 u48 u49 u50 u51 u52 u53 u54 u55 u56 u57 u58 u59 u60 u61 u62 u63 u64 u65 u66 u67 u68 u69 u70 u71 u72 u73 u74 u75 u76 u77 u78 u79 u80 u81 u82 u83 u84 u85 u86 u87 u88 u89 u90 u91 u92 u93 u94 u95 u96 u97 u98 u99 u100 u101 u102 u103 u104 u105 u106 u107 u108 u109 u110 u111 u112 u113 u114 u115 u116 u117 u118 u119 u120 u121 u122 u123 u124 u125 u126 u127 u128 u129 u130 u131 u132 u133 u134 u135 u136 u137 u138 u139 u140 u141 u142 u143 u144 u145 u146 u147 u148 u149 u150 u151 u152 u153 u154 u155 u156 u157 u158 u159 u160 u161 u162 u163 u164 u165 u166 u167 u168 u169 u170 u171 u172 u173 u174 u175 u176 u177 u178 u179 u180 u181 u182 u183 u184 u185 u186 u187 u188 u189 u190 u191 u192 u193 u194 u195 u196 u197 u198 u199 u200 u201 u202 u203 u204 u205 u206 u207 u208 u209 u210 u211 u212 u213 u214 u215 u216 u217 u218 u219 u220 u221 u222 u223 u224 u225 u226 u227
    dsimp only
    conv => arg 2; whnf
    go_wp2_with fail
    exact unhide HZ _ ⟨rfl, rfl, rfl, rfl, rfl, rfl, rfl, rfl, rfl, rfl, rfl, rfl, rfl⟩

set_option maxHeartbeats 8000000 in
set_option maxRecDepth 100000 in
theorem sc9 (X Y : Code) {vk : Bool} (hk : k < n) (d1 : w.cell? ⟨b4, k, Option.none⟩ = some (.bool vk))
    (hF : Fr15 a (.slice oa n oc) (.int .i64 (n : Nat)) (.slice (some ⟨b4, 0, Option.none⟩) n n) (.slice (some ⟨b5, 0, Option.none⟩) m5 n) (.slice (some ⟨b6, 0, Option.none⟩) m6 n) (.slice (some ⟨b7, 0, Option.none⟩) m7 n) (.int .i64 (k : Nat)) (s9) (s10) (s11) (s12))
    (h1 : vk = true → ∀ a', Fr15 a' (.slice oa n oc) (.int .i64 (n : Nat)) (.slice (some ⟨b4, 0, Option.none⟩) n n) (.slice (some ⟨b5, 0, Option.none⟩) m5 n) (.slice (some ⟨b6, 0, Option.none⟩) m6 n) (.slice (some ⟨b7, 0, Option.none⟩) m7 n) (.int .i64 (k : Nat)) (s9) (s10) (s11) (s12) → Code.wp Try.prog X Q a' w)
    (h2 : ¬ vk = true → ∀ a', Fr15 a' (.slice oa n oc) (.int .i64 (n : Nat)) (.slice (some ⟨b4, 0, Option.none⟩) n n) (.slice (some ⟨b5, 0, Option.none⟩) m5 n) (.slice (some ⟨b6, 0, Option.none⟩) m6 n) (.slice (some ⟨b7, 0, Option.none⟩) m7 n) (.int .i64 (k : Nat)) (s9) (s10) (s11) (s12) → Code.wp Try.prog Y Q a' w) :
    Code.wp Try.prog (.seq (headC (headC (innerC (headC (tailC (innerC (innerC (tailC (stm Try.f15.body 6))))))))) (.cond (.tmp 45) X Y)) Q a w := by
  have lk : (k : Int) < (n : Int) := by omega
  by_cases hc : vk = true
  · have HZ := hide (h1 hc)
    subst hc
    clear h1 h2 
    refine fr_open15 (fun a => Code.wp Try.prog (.seq (headC (headC (innerC (headC (tailC (innerC (innerC (tailC (stm Try.f15.body 6))))))))) (.cond (.tmp 45) X Y)) Q a w) a hF ?_
    intro u1 u2 u13 u14 u15 u16 u17 u18 u19 u20 u21 u22 u23 u24 u25 u26 u27 u28 u29 u30 u31 u32 u33 u34 u35 u36 u37 u38 u39 u40 u41 u42 u43 u44 u45 u46 u47 u48 u49 u50 u51 u52 u53 u54 u55 u56 u57 u58 u59 u60 u61 u62 u63 u64 u65 u66 u67 u68 u69 u70 u71 u72 u73 u74 u75 u76 u77 u78 u79 u80 u81 u82 u83 u84 u85 u86 u87 u88 u89 u90 u91 u92 u93 u94 u95 u96 u97 u98 u99 u100 u101 u102 u103 u104 u105 u106 u107 u108 u109 u110 u111 u112 u113 u114 u115 u116 u117 u118 u119 u120 u121 u122 u123 u124 u125 u126 u127 u128 u129 u130 u131 u132 u133 u134 u135 u136 u137 u138 u139 u140 u141 u142 u143 u144 u145 u146 u147 u148 u149 u150 u151 u152 u153 u154 u155 u156 u157 u158 u159 u160 u161 u162 u163 u164 u165 u166 u167 u168 u169 u170 u171 u172 u173 u174 u175 u176 u177 u178 u179 u180 u181 u182 u183 u184 u185 u186 u187 u188 u189 u190 u191 u192 u193 u194 u195 u196 u197 u198 u199 u200 u201 u202 u203 u204 u205 u206 u207 u208 u209 u210 u211 u212 u213 u214 u215 u216 u217 u218 u219 u220 u221 u222 u223 u224 u225 u226 u227
    dsimp only
    conv => arg 2; arg 1; whnf
    go_wp2_with fail
    exact unhide HZ _ ⟨rfl, rfl, rfl, rfl, rfl, rfl, rfl, rfl, rfl, rfl, rfl, rfl, rfl⟩
  · have HZ := hide (h2 hc)
    obtain rfl : vk = false := by simpa using hc
    clear h1 h2 
    refine fr_open15 (fun a => Code.wp Try.prog (.seq (headC (headC (innerC (headC (tailC (innerC (innerC (tailC (stm Try.f15.body 6))))))))) (.cond (.tmp 45) X Y)) Q a w) a hF ?_
    intro u1 u2 u13 u14 u15 u16 u17 u18 u19 u20 u21 u22 u23 u24 u25 u26 u27 u28 u29 u30 u31 u32 u33 u34 u35 u36 u37 u38 u39 u40 u41 u42 u43 u44 u45 u46 u47 u48 u49 u50 u51 u52 u53 u54 u55 u56 u57 u58 u59 u60 u61 u62 u63 u64 u65 u66 u67 u68 u69 u70 u71 u72 u73 u74 u75 u76 u77 u78 u79 u80 u81 u82 u83 u84 u85 u86 u87 u88 u89 u90 u91 u92 u93 u94 u95 u96 u97 u98 u99 u100 u101 u102 u103 u104 u105 u106 u107 u108 u109 u110 u111 u112 u113 u114 u115 u116 u117 u118 u119 u120 u121 u122 u123 u124 u125 u126 u127 u128 u129 u130 u131 u132 u133 u134 u135 u136 u137 u138 u139 u140 u141 u142 u143 u144 u145 u146 u147 u148 u149 u150 u151 u152 u153 u154 u155 u156 u157 u158 u159 u160 u161 u162 u163 u164 u165 u166 u167 u168 u169 u170 u171 u172 u173 u174 u175 u176 u177 u178 u179 u180 u181 u182 u183 u184 u185 u186 u187 u188 u189 u190 u191 u192 u193 u194 u195 u196 u197 u198 u199 u200 u201 u202 u203 u204 u205 u206 u207 u208 u209 u210 u211 u212 u213 u214 u215 u216 u217 u218 u219 u220 u221 u222 u223 u224 u225 u226 u227
    dsimp only
    conv => arg 2; arg 1; whnf
    go_wp2_with fail
    exact unhide HZ _ ⟨rfl, rfl, rfl, rfl, rfl, rfl, rfl, rfl, rfl, rfl, rfl, rfl, rfl⟩

set_option maxHeartbeats 8000000 in
set_option maxRecDepth 100000 in
theorem sc10 (hk : k < n) (d1 : (w.cell? ⟨b4, k, Option.none⟩).isSome = true) (f1 : w.frozen? ⟨b4, k, Option.none⟩ = false)
    (hF : Fr15 a (.slice oa n oc) (.int .i64 (n : Nat)) (.slice (some ⟨b4, 0, Option.none⟩) n n) (.slice (some ⟨b5, 0, Option.none⟩) m5 n) (.slice (some ⟨b6, 0, Option.none⟩) m6 n) (.slice (some ⟨b7, 0, Option.none⟩) m7 n) (.int .i64 (k : Nat)) (s9) (s10) (s11) (s12))
    (hZ : ∀ a', Fr15 a' (.slice oa n oc) (.int .i64 (n : Nat)) (.slice (some ⟨b4, 0, Option.none⟩) n n) (.slice (some ⟨b5, 0, Option.none⟩) m5 n) (.slice (some ⟨b6, 0, Option.none⟩) m6 n) (.slice (some ⟨b7, 0, Option.none⟩) m7 n) (.int .i64 (k : Nat)) (s9) (s10) (s11) (s12) → Q .normal a' (w.setCell ⟨b4, k, Option.none⟩ (.bool true))) :
    Code.wp Try.prog (headC (tailC (innerC (headC (tailC (innerC (innerC (tailC (stm Try.f15.body 6))))))))) Q a w := by
  have HZ := hide hZ
  obtain ⟨d, d1⟩ := Option.isSome_iff_exists.1 d1
  have lk : ((k : Nat) : Int) < (n : Int) := by omega
  clear hZ 
  refine fr_open15 (fun a => Code.wp Try.prog (headC (tailC (innerC (headC (tailC (innerC (innerC (tailC (stm Try.f15.body 6))))))))) Q a w) a hF ?_
  intro u1 u2 u13 u14 u15 u16 u17 u18 u19 u20 u21 u22 u23 u24 u25 u26 u27 u28 u29 u30 u31 u32 u33 u34 u35 u36 u37 u38 u39 u40 u41 u42 u43 u44 u45 u46 u47 u48 u49 u50 u51 u52 u53 u54 u55 u56 u57 u58 u59 u60 u61 u62 u63 u64 u65 u66 u67 u68 u69 u70 u71 u72 u73 u74 u75 u76 u77 u78 u79 u80 u81 u82 u83 u84 u85 u86 u87 u88 u89 u90 u91 u92 u93 u94 u95 u96 u97 u98 u99 u100 u101 u102 u103 u104 u105 u106 u107 u108 u109 u110 u111 u112 u113 u114 u115 u116 u117 u118 u119 u120 u121 u122 u123 u124 u125 u126 u127 u128 u129 u130 u131 u132 u133 u134 u135 u136 u137 u138 u139 u140 u141 u142 u143 u144 u145 u146 u147 u148 u149 u150 u151 u152 u153 u154 u155 u156 u157 u158 u159 u160 u161 u162 u163 u164 u165 u166 u167 u168 u169 u170 u171 u172 u173 u174 u175 u176 u177 u178 u179 u180 u181 u182 u183 u184 u185 u186 u187 u188 u189 u190 u191 u192 u193 u194 u195 u196 u197 u198 u199 u200 u201 u202 u203 u204 u205 u206 u207 u208 u209 u210 u211 u212 u213 u214 u215 u216 u217 u218 u219 u220 u221 u222 u223 u224 u225 u226 u227
  dsimp only
  conv => arg 2; whnf
  go_wp2_with fail
  exact unhide HZ _ ⟨rfl, rfl, rfl, rfl, rfl, rfl, rfl, rfl, rfl, rfl, rfl, rfl, rfl⟩

set_option maxHeartbeats 8000000 in
set_option maxRecDepth 100000 in
theorem sc11 (hrun : (Builtin.append_ #[22, 22] 22 #[.slice (some ⟨b6, 0, Option.none⟩) m6 n, .slice (some ⟨w.heap.size, 0, Option.none⟩) 1 1]).run Try.prog (w.alloc (.cells #[.int .i64 (k : Nat)] 3)) = .ok (.slice (some ⟨b6, 0, Option.none⟩) (m6 + 1) n) w')
    (hF : Fr15 a (.slice oa n oc) (.int .i64 (n : Nat)) (.slice (some ⟨b4, 0, Option.none⟩) n n) (.slice (some ⟨b5, 0, Option.none⟩) m5 n) (.slice (some ⟨b6, 0, Option.none⟩) m6 n) (.slice (some ⟨b7, 0, Option.none⟩) m7 n) (.int .i64 (k : Nat)) (s9) (s10) (s11) (s12))
    (hZ : ∀ a', Fr15 a' (.slice oa n oc) (.int .i64 (n : Nat)) (.slice (some ⟨b4, 0, Option.none⟩) n n) (.slice (some ⟨b5, 0, Option.none⟩) m5 n) (.slice (some ⟨b6, 0, Option.none⟩) (m6 + 1) n) (.slice (some ⟨b7, 0, Option.none⟩) m7 n) (.int .i64 (k : Nat)) (s9) (s10) (s11) (s12) → Q .normal a' w') :
    Code.wp Try.prog (headC (tailC (tailC (innerC (headC (tailC (innerC (innerC (tailC (stm Try.f15.body 6)))))))))) Q a w := by
  have HZ := hide hZ
  clear hZ 
  refine fr_open15 (fun a => Code.wp Try.prog (headC (tailC (tailC (innerC (headC (tailC (innerC (innerC (tailC (stm Try.f15.body 6)))))))))) Q a w) a hF ?_
  intro u1 u2 u13 u14 u15 u16 u17 u18 u19 u20 u21 u22 u23 u24 u25 u26 u27 u28 u29 u30 u31 u32 u33 u34 u35 u36 u37 u38 u39 u40 u41 u42 u43 u44 u45 u46 u47 u48 u49 u50 u51 u52 u53 u54 u55 u56 u57 u58 u59 u60 u61 u62 u63 u64 u65 u66 u67 u68 u69 u70 u71 u72 u73 u74 u75 u76 u77 u78 u79 u80 u81 u82 u83 u84 u85 u86 u87 u88 u89 u90 u91 u92 u93 u94 u95 u96 u97 u98 u99 u100 u101 u102 u103 u104 u105 u106 u107 u108 u109 u110 u111 u112 u113 u114 u115 u116 u117 u118 u119 u120 u121 u122 u123 u124 u125 u126 u127 u128 u129 u130 u131 u132 u133 u134 u135 u136 u137 u138 u139 u140 u141 u142 u143 u144 u145 u146 u147 u148 u149 u150 u151 u152 u153 u154 u155 u156 u157 u158 u159 u160 u161 u162 u163 u164 u165 u166 u167 u168 u169 u170 u171 u172 u173 u174 u175 u176 u177 u178 u179 u180 u181 u182 u183 u184 u185 u186 u187 u188 u189 u190 u191 u192 u193 u194 u195 u196 u197 u198 u199 u200 u201 u202 u203 u204 u205 u206 u207 u208 u209 u210 u211 u212 u213 u214 u215 u216 u217 u218 u219 u220 u221 u222 u223 u224 u225 u226 u227
  dsimp only
  conv => arg 2; whnf
  go_wp2_with (at_builtin; refine Lib.wpList_append_run _ rfl _ _ _ _ rfl _ _ rfl rfl _ _ hrun ?_)
  exact unhide HZ _ ⟨rfl, rfl, rfl, rfl, rfl, rfl, rfl, rfl, rfl, rfl, rfl, rfl, rfl⟩

set_option maxHeartbeats 8000000 in
set_option maxRecDepth 100000 in
theorem sc12 (hrun : (Builtin.append_ #[22, 22] 22 #[.slice (some ⟨b7, 0, Option.none⟩) m7 n, .slice (some ⟨w.heap.size, 0, Option.none⟩) 1 1]).run Try.prog (w.alloc (.cells #[.int .i64 0] 3)) = .ok (.slice (some ⟨b7, 0, Option.none⟩) (m7 + 1) n) w')
    (hF : Fr15 a (.slice oa n oc) (.int .i64 (n : Nat)) (.slice (some ⟨b4, 0, Option.none⟩) n n) (.slice (some ⟨b5, 0, Option.none⟩) m5 n) (.slice (some ⟨b6, 0, Option.none⟩) m6 n) (.slice (some ⟨b7, 0, Option.none⟩) m7 n) (s8) (s9) (s10) (s11) (s12))
    (hZ : ∀ a', Fr15 a' (.slice oa n oc) (.int .i64 (n : Nat)) (.slice (some ⟨b4, 0, Option.none⟩) n n) (.slice (some ⟨b5, 0, Option.none⟩) m5 n) (.slice (some ⟨b6, 0, Option.none⟩) m6 n) (.slice (some ⟨b7, 0, Option.none⟩) (m7 + 1) n) (s8) (s9) (s10) (s11) (s12) → Q .normal a' w') :
    Code.wp Try.prog (headC (tailC (tailC (tailC (innerC (headC (tailC (innerC (innerC (tailC (stm Try.f15.body 6))))))))))) Q a w := by
  have HZ := hide hZ
  clear hZ 
  refine fr_open15 (fun a => Code.wp Try.prog (headC (tailC (tailC (tailC (innerC (headC (tailC (innerC (innerC (tailC (stm Try.f15.body 6))))))))))) Q a w) a hF ?_
  intro u1 u2 u13 u14 u15 u16 u17 u18 u19 u20 u21 u22 u23 u24 u25 u26 u27 u28 u29 u30 u31 u32 u33 u34 u35 u36 u37 u38 u39 u40 u41 u42 u43 u44 u45 u46 u47 u48 u49 u50 u51 u52 u53 u54 u55 u56 u57 u58 u59 u60 u61 u62 u63 u64 u65 u66 u67 u68 u69 u70 u71 u72 u73 u74 u75 u76 u77 u78 u79 u80 u81 u82 u83 u84 u85 u86 u87 u88 u89 u90 u91 u92 u93 u94 u95 u96 u97 u98 u99 u100 u101 u102 u103 u104 u105 u106 u107 u108 u109 u110 u111 u112 u113 u114 u115 u116 u117 u118 u119 u120 u121 u122 u123 u124 u125 u126 u127 u128 u129 u130 u131 u132 u133 u134 u135 u136 u137 u138 u139 u140 u141 u142 u143 u144 u145 u146 u147 u148 u149 u150 u151 u152 u153 u154 u155 u156 u157 u158 u159 u160 u161 u162 u163 u164 u165 u166 u167 u168 u169 u170 u171 u172 u173 u174 u175 u176 u177 u178 u179 u180 u181 u182 u183 u184 u185 u186 u187 u188 u189 u190 u191 u192 u193 u194 u195 u196 u197 u198 u199 u200 u201 u202 u203 u204 u205 u206 u207 u208 u209 u210 u211 u212 u213 u214 u215 u216 u217 u218 u219 u220 u221 u222 u223 u224 u225 u226 u227
  dsimp only
  conv => arg 2; whnf
  go_wp2_with (at_builtin; refine Lib.wpList_append_run _ rfl _ _ _ _ rfl _ _ rfl rfl _ _ hrun ?_)
  exact unhide HZ _ ⟨rfl, rfl, rfl, rfl, rfl, rfl, rfl, rfl, rfl, rfl, rfl, rfl, rfl⟩

set_option maxHeartbeats 8000000 in
set_option maxRecDepth 100000 in
theorem sc13 
    (hF : Fr15 a (.slice oa n oc) (.int .i64 (n : Nat)) (.slice (some ⟨b4, 0, Option.none⟩) n n) (.slice (some ⟨b5, 0, Option.none⟩) m5 n) (.slice (some ⟨b6, 0, Option.none⟩) m6 n) (.slice (some ⟨b7, 0, Option.none⟩) m7 n) (s8) (s9) (s10) (s11) (s12))
    (h1 : 0 < m6 → ∀ a', Fr15 a' (.slice oa n oc) (.int .i64 (n : Nat)) (.slice (some ⟨b4, 0, Option.none⟩) n n) (.slice (some ⟨b5, 0, Option.none⟩) m5 n) (.slice (some ⟨b6, 0, Option.none⟩) m6 n) (.slice (some ⟨b7, 0, Option.none⟩) m7 n) (s8) (s9) (s10) (s11) (s12) → Q .normal a' w)
    (h2 : ¬ 0 < m6 → ∀ a', Fr15 a' (.slice oa n oc) (.int .i64 (n : Nat)) (.slice (some ⟨b4, 0, Option.none⟩) n n) (.slice (some ⟨b5, 0, Option.none⟩) m5 n) (.slice (some ⟨b6, 0, Option.none⟩) m6 n) (.slice (some ⟨b7, 0, Option.none⟩) m7 n) (s8) (s9) (s10) (s11) (s12) → Q (.exit 2) a' w) :
    Code.wp Try.prog (headC (innerC (innerC (tailC (tailC (tailC (tailC (innerC (headC (tailC (innerC (innerC (tailC (stm Try.f15.body 6)))))))))))))) Q a w := by
  by_cases hc : 0 < m6
  · have HZ := hide (h1 hc)
    have t1 : (0 : Int) < (m6 : Int) := by omega
    clear h1 h2 
    refine fr_open15 (fun a => Code.wp Try.prog (headC (innerC (innerC (tailC (tailC (tailC (tailC (innerC (headC (tailC (innerC (innerC (tailC (stm Try.f15.body 6)))))))))))))) Q a w) a hF ?_
    intro u1 u2 u13 u14 u15 u16 u17 u18 u19 u20 u21 u22 u23 u24 u25 u26 u27 u28 u29 u30 u31 u32 u33 u34 u35 u36 u37 u38 u39 u40 u41 u42 u43 u44 u45 u46 u47 u48 u49 u50 u51 u52 u53 u54 u55 u56 u57 u58 u59 u60 u61 u62 u63 u64 u65 u66 u67 u68 u69 u70 u71 u72 u73 u74 u75 u76 u77 u78 u79 u80 u81 u82 u83 u84 u85 u86 u87 u88 u89 u90 u91 u92 u93 u94 u95 u96 u97 u98 u99 u100 u101 u102 u103 u104 u105 u106 u107 u108 u109 u110 u111 u112 u113 u114 u115 u116 u117 u118 u119 u120 u121 u122 u123 u124 u125 u126 u127 u128 u129 u130 u131 u132 u133 u134 u135 u136 u137 u138 u139 u140 u141 u142 u143 u144 u145 u146 u147 u148 u149 u150 u151 u152 u153 u154 u155 u156 u157 u158 u159 u160 u161 u162 u163 u164 u165 u166 u167 u168 u169 u170 u171 u172 u173 u174 u175 u176 u177 u178 u179 u180 u181 u182 u183 u184 u185 u186 u187 u188 u189 u190 u191 u192 u193 u194 u195 u196 u197 u198 u199 u200 u201 u202 u203 u204 u205 u206 u207 u208 u209 u210 u211 u212 u213 u214 u215 u216 u217 u218 u219 u220 u221 u222 u223 u224 u225 u226 u227
    dsimp only
    conv => arg 2; whnf
    go_wp2_with fail
    exact unhide HZ _ ⟨rfl, rfl, rfl, rfl, rfl, rfl, rfl, rfl, rfl, rfl, rfl, rfl, rfl⟩
  · have HZ := hide (h2 hc)
    obtain rfl : m6 = 0 := by omega
    clear h1 h2 
    refine fr_open15 (fun a => Code.wp Try.prog (headC (innerC (innerC (tailC (tailC (tailC (tailC (innerC (headC (tailC (innerC (innerC (tailC (stm Try.f15.body 6)))))))))))))) Q a w) a hF ?_
    intro u1 u2 u13 u14 u15 u16 u17 u18 u19 u20 u21 u22 u23 u24 u25 u26 u27 u28 u29 u30 u31 u32 u33 u34 u35 u36 u37 u38 u39 u40 u41 u42 u43 u44 u45 u46 u47 u48 u49 u50 u51 u52 u53 u54 u55 u56 u57 u58 u59 u60 u61 u62 u63 u64 u65 u66 u67 u68 u69 u70 u71 u72 u73 u74 u75 u76 u77 u78 u79 u80 u81 u82 u83 u84 u85 u86 u87 u88 u89 u90 u91 u92 u93 u94 u95 u96 u97 u98 u99 u100 u101 u102 u103 u104 u105 u106 u107 u108 u109 u110 u111 u112 u113 u114 u115 u116 u117 u118 u119 u120 u121 u122 u123 u124 u125 u126 u127 u128 u129 u130 u131 u132 u133 u134 u135 u136 u137 u138 u139 u140 u141 u142 u143 u144 u145 u146 u147 u148 u149 u150 u151 u152 u153 u154 u155 u156 u157 u158 u159 u160 u161 u162 u163 u164 u165 u166 u167 u168 u169 u170 u171 u172 u173 u174 u175 u176 u177 u178 u179 u180 u181 u182 u183 u184 u185 u186 u187 u188 u189 u190 u191 u192 u193 u194 u195 u196 u197 u198 u199 u200 u201 u202 u203 u204 u205 u206 u207 u208 u209 u210 u211 u212 u213 u214 u215 u216 u217 u218 u219 u220 u221 u222 u223 u224 u225 u226 u227
    dsimp only
    conv => arg 2; whnf
    go_wp2_with fail
    exact unhide HZ _ ⟨rfl, rfl, rfl, rfl, rfl, rfl, rfl, rfl, rfl, rfl, rfl, rfl, rfl⟩

set_option maxHeartbeats 8000000 in
set_option maxRecDepth 100000 in
theorem sc14 (hm : m + 1 ≤ 65536)
    (hF : Fr15 a (.slice oa n oc) (.int .i64 (n : Nat)) (.slice (some ⟨b4, 0, Option.none⟩) n n) (.slice (some ⟨b5, 0, Option.none⟩) m5 n) (.slice (some ⟨b6, 0, Option.none⟩) (m + 1) n) (.slice (some ⟨b7, 0, Option.none⟩) m7 n) (s8) (s9) (s10) (s11) (s12))
    (hZ : ∀ a', Fr15 a' (.slice oa n oc) (.int .i64 (n : Nat)) (.slice (some ⟨b4, 0, Option.none⟩) n n) (.slice (some ⟨b5, 0, Option.none⟩) m5 n) (.slice (some ⟨b6, 0, Option.none⟩) (m + 1) n) (.slice (some ⟨b7, 0, Option.none⟩) m7 n) (s8) (.int .i64 (m : Nat)) (s10) (s11) (s12) → Q .normal a' w) :
    Code.wp Try.prog (headC (innerC (tailC (innerC (innerC (tailC (tailC (tailC (tailC (innerC (headC (tailC (innerC (innerC (tailC (stm Try.f15.body 6)))))))))))))))) Q a w := by
  have HZ := hide hZ
  clear hZ 
  refine fr_open15 (fun a => Code.wp Try.prog (headC (innerC (tailC (innerC (innerC (tailC (tailC (tailC (tailC (innerC (headC (tailC (innerC (innerC (tailC (stm Try.f15.body 6)))))))))))))))) Q a w) a hF ?_
  intro u1 u2 u13 u14 u15 u16 u17 u18 u19 u20 u21 u22 u23 u24 u25 u26 u27 u28 u29 u30 u31 u32 u33 u34 u35 u36 u37 u38 u39 u40 u41 u42 u43 u44 u45 u46 u47 u48 u49 u50 u51 u52 u53 u54 u55 u56 u57 u58 u59 u60 u61 u62 u63 u64 u65 u66 u67 u68 u69 u70 u71 u72 u73 u74 u75 u76 u77 u78 u79 u80 u81 u82 u83 u84 u85 u86 u87 u88 u89 u90 u91 u92 u93 u94 u95 u96 u97 u98 u99 u100 u101 u102 u103 u104 u105 u106 u107 u108 u109 u110 u111 u112 u113 u114 u115 u116 u117 u118 u119 u120 u121 u122 u123 u124 u125 u126 u127 u128 u129 u130 u131 u132 u133 u134 u135 u136 u137 u138 u139 u140 u141 u142 u143 u144 u145 u146 u147 u148 u149 u150 u151 u152 u153 u154 u155 u156 u157 u158 u159 u160 u161 u162 u163 u164 u165 u166 u167 u168 u169 u170 u171 u172 u173 u174 u175 u176 u177 u178 u179 u180 u181 u182 u183 u184 u185 u186 u187 u188 u189 u190 u191 u192 u193 u194 u195 u196 u197 u198 u199 u200 u201 u202 u203 u204 u205 u206 u207 u208 u209 u210 u211 u212 u213 u214 u215 u216 u217 u218 u219 u220 u221 u222 u223 u224 u225 u226 u227
  dsimp only
  conv => arg 2; whnf
  go_wp2_with fail
  exact unhide HZ _ ⟨rfl, rfl, rfl, rfl, rfl, rfl, rfl, rfl, rfl, rfl, rfl, rfl, rfl⟩

set_option maxHeartbeats 8000000 in
set_option maxRecDepth 100000 in
theorem sc15 (d1 : w.cell? ⟨b6, m, Option.none⟩ = some (.int .i64 (v : Nat)))
    (hF : Fr15 a (.slice oa n oc) (.int .i64 (n : Nat)) (.slice (some ⟨b4, 0, Option.none⟩) n n) (.slice (some ⟨b5, 0, Option.none⟩) m5 n) (.slice (some ⟨b6, 0, Option.none⟩) (m + 1) n) (.slice (some ⟨b7, 0, Option.none⟩) m7 n) (s8) (.int .i64 (m : Nat)) (s10) (s11) (s12))
    (hZ : ∀ a', Fr15 a' (.slice oa n oc) (.int .i64 (n : Nat)) (.slice (some ⟨b4, 0, Option.none⟩) n n) (.slice (some ⟨b5, 0, Option.none⟩) m5 n) (.slice (some ⟨b6, 0, Option.none⟩) (m + 1) n) (.slice (some ⟨b7, 0, Option.none⟩) m7 n) (s8) (.int .i64 (m : Nat)) (.int .i64 (v : Nat)) (s11) (s12) → Q .normal a' w) :
    Code.wp Try.prog (headC (tailC (innerC (tailC (innerC (innerC (tailC (tailC (tailC (tailC (innerC (headC (tailC (innerC (innerC (tailC (stm Try.f15.body 6))))))))))))))))) Q a w := by
  have HZ := hide hZ
  have lm : (m : Int) < ((m + 1 : Nat) : Int) := by omega
  clear hZ 
  refine fr_open15 (fun a => Code.wp Try.prog (headC (tailC (innerC (tailC (innerC (innerC (tailC (tailC (tailC (tailC (innerC (headC (tailC (innerC (innerC (tailC (stm Try.f15.body 6))))))))))))))))) Q a w) a hF ?_
  intro u1 u2 u13 u14 u15 u16 u17 u18 u19 u20 u21 u22 u23 u24 u25 u26 u27 u28 u29 u30 u31 u32 u33 u34 u35 u36 u37 u38 u39 u40 u41 u42 u43 u44 u45 u46 u47 u48 u49 u50 u51 u52 u53 u54 u55 u56 u57 u58 u59 u60 u61 u62 u63 u64 u65 u66 u67 u68 u69 u70 u71 u72 u73 u74 u75 u76 u77 u78 u79 u80 u81 u82 u83 u84 u85 u86 u87 u88 u89 u90 u91 u92 u93 u94 u95 u96 u97 u98 u99 u100 u101 u102 u103 u104 u105 u106 u107 u108 u109 u110 u111 u112 u113 u114 u115 u116 u117 u118 u119 u120 u121 u122 u123 u124 u125 u126 u127 u128 u129 u130 u131 u132 u133 u134 u135 u136 u137 u138 u139 u140 u141 u142 u143 u144 u145 u146 u147 u148 u149 u150 u151 u152 u153 u154 u155 u156 u157 u158 u159 u160 u161 u162 u163 u164 u165 u166 u167 u168 u169 u170 u171 u172 u173 u174 u175 u176 u177 u178 u179 u180 u181 u182 u183 u184 u185 u186 u187 u188 u189 u190 u191 u192 u193 u194 u195 u196 u197 u198 u199 u200 u201 u202 u203 u204 u205 u206 u207 u208 u209 u210 u211 u212 u213 u214 u215 u216 u217 u218 u219 u220 u221 u222 u223 u224 u225 u226 u227
  dsimp only
  conv => arg 2; whnf
  go_wp2_with fail
  exact unhide HZ _ ⟨rfl, rfl, rfl, rfl, rfl, rfl, rfl, rfl, rfl, rfl, rfl, rfl, rfl⟩

set_option maxHeartbeats 8000000 in
set_option maxRecDepth 100000 in
theorem sc16 (d1 : w.cell? ⟨b7, m, Option.none⟩ = some (.int .i64 (k : Nat)))
    (hF : Fr15 a (.slice oa n oc) (.int .i64 (n : Nat)) (.slice (some ⟨b4, 0, Option.none⟩) n n) (.slice (some ⟨b5, 0, Option.none⟩) m5 n) (.slice (some ⟨b6, 0, Option.none⟩) m6 n) (.slice (some ⟨b7, 0, Option.none⟩) (m + 1) n) (s8) (.int .i64 (m : Nat)) (s10) (s11) (s12))
    (hZ : ∀ a', Fr15 a' (.slice oa n oc) (.int .i64 (n : Nat)) (.slice (some ⟨b4, 0, Option.none⟩) n n) (.slice (some ⟨b5, 0, Option.none⟩) m5 n) (.slice (some ⟨b6, 0, Option.none⟩) m6 n) (.slice (some ⟨b7, 0, Option.none⟩) (m + 1) n) (s8) (.int .i64 (m : Nat)) (s10) (.int .i64 (k : Nat)) (s12) → Q .normal a' w) :
    Code.wp Try.prog (headC (tailC (tailC (innerC (tailC (innerC (innerC (tailC (tailC (tailC (tailC (innerC (headC (tailC (innerC (innerC (tailC (stm Try.f15.body 6)))))))))))))))))) Q a w := by
  have HZ := hide hZ
  have lm : (m : Int) < ((m + 1 : Nat) : Int) := by omega
  clear hZ 
  refine fr_open15 (fun a => Code.wp Try.prog (headC (tailC (tailC (innerC (tailC (innerC (innerC (tailC (tailC (tailC (tailC (innerC (headC (tailC (innerC (innerC (tailC (stm Try.f15.body 6)))))))))))))))))) Q a w) a hF ?_
  intro u1 u2 u13 u14 u15 u16 u17 u18 u19 u20 u21 u22 u23 u24 u25 u26 u27 u28 u29 u30 u31 u32 u33 u34 u35 u36 u37 u38 u39 u40 u41 u42 u43 u44 u45 u46 u47 u48 u49 u50 u51 u52 u53 u54 u55 u56 u57 u58 u59 u60 u61 u62 u63 u64 u65 u66 u67 u68 u69 u70 u71 u72 u73 u74 u75 u76 u77 u78 u79 u80 u81 u82 u83 u84 u85 u86 u87 u88 u89 u90 u91 u92 u93 u94 u95 u96 u97 u98 u99 u100 u101 u102 u103 u104 u105 u106 u107 u108 u109 u110 u111 u112 u113 u114 u115 u116 u117 u118 u119 u120 u121 u122 u123 u124 u125 u126 u127 u128 u129 u130 u131 u132 u133 u134 u135 u136 u137 u138 u139 u140 u141 u142 u143 u144 u145 u146 u147 u148 u149 u150 u151 u152 u153 u154 u155 u156 u157 u158 u159 u160 u161 u162 u163 u164 u165 u166 u167 u168 u169 u170 u171 u172 u173 u174 u175 u176 u177 u178 u179 u180 u181 u182 u183 u184 u185 u186 u187 u188 u189 u190 u191 u192 u193 u194 u195 u196 u197 u198 u199 u200 u201 u202 u203 u204 u205 u206 u207 u208 u209 u210 u211 u212 u213 u214 u215 u216 u217 u218 u219 u220 u221 u222 u223 u224 u225 u226 u227
  dsimp only
  conv => arg 2; whnf
  go_wp2_with fail
  exact unhide HZ _ ⟨rfl, rfl, rfl, rfl, rfl, rfl, rfl, rfl, rfl, rfl, rfl, rfl, rfl⟩

set_option maxHeartbeats 8000000 in
set_option maxRecDepth 100000 in
theorem sc17 (X Y : Code) (hv : v < n) (hr : ∃ b off, oa = some ⟨b, off, Option.none⟩ ∧ w.cell? ⟨b, off + v, Option.none⟩ = some (.slice A N C))
    (hF : Fr15 a (.slice oa n oc) (.int .i64 (n : Nat)) (.slice (some ⟨b4, 0, Option.none⟩) n n) (.slice (some ⟨b5, 0, Option.none⟩) m5 n) (.slice (some ⟨b6, 0, Option.none⟩) m6 n) (.slice (some ⟨b7, 0, Option.none⟩) m7 n) (s8) (.int .i64 (m : Nat)) (.int .i64 (v : Nat)) (.int .i64 (k : Nat)) (s12))
    (h1 : k < N → ∀ a', Fr15 a' (.slice oa n oc) (.int .i64 (n : Nat)) (.slice (some ⟨b4, 0, Option.none⟩) n n) (.slice (some ⟨b5, 0, Option.none⟩) m5 n) (.slice (some ⟨b6, 0, Option.none⟩) m6 n) (.slice (some ⟨b7, 0, Option.none⟩) m7 n) (s8) (.int .i64 (m : Nat)) (.int .i64 (v : Nat)) (.int .i64 (k : Nat)) (s12) → Code.wp Try.prog X Q a' w)
    (h2 : ¬ k < N → ∀ a', Fr15 a' (.slice oa n oc) (.int .i64 (n : Nat)) (.slice (some ⟨b4, 0, Option.none⟩) n n) (.slice (some ⟨b5, 0, Option.none⟩) m5 n) (.slice (some ⟨b6, 0, Option.none⟩) m6 n) (.slice (some ⟨b7, 0, Option.none⟩) m7 n) (s8) (.int .i64 (m : Nat)) (.int .i64 (v : Nat)) (.int .i64 (k : Nat)) (s12) → Code.wp Try.prog Y Q a' w) :
    Code.wp Try.prog (.seq (headC (tailC (tailC (tailC (innerC (tailC (innerC (innerC (tailC (tailC (tailC (tailC (innerC (headC (tailC (innerC (innerC (tailC (stm Try.f15.body 6))))))))))))))))))) (.cond (.tmp 76) X Y)) Q a w := by
  obtain ⟨b, off, rfl, hr⟩ := hr
  have lv : (v : Int) < (n : Int) := by omega
  by_cases hc : k < N
  · have HZ := hide (h1 hc)
    have t1 : (k : Int) < (N : Int) := by omega
    clear h1 h2 
    refine fr_open15 (fun a => Code.wp Try.prog (.seq (headC (tailC (tailC (tailC (innerC (tailC (innerC (innerC (tailC (tailC (tailC (tailC (innerC (headC (tailC (innerC (innerC (tailC (stm Try.f15.body 6))))))))))))))))))) (.cond (.tmp 76) X Y)) Q a w) a hF ?_
    intro u1 u2 u13 u14 u15 u16 u17 u18 u19 u20 u21 u22 u23 u24 u25 u26 u27 u28 u29 u30 u31 u32 u33 u34 u35 u36 u37 u38 u39 u40 u41 u42 u43 u44 u45 u46 u47 u48 u49 u50 u51 u52 u53 u54 u55 u56 u57 u58 u59 u60 u61 u62 u63 u64 u65 u66 u67 u68 u69 u70 u71 u72 u73 u74 u75 u76 u77 u78 u79 u80 u81 u82 u83 u84 u85 u86 u87 u88 u89 u90 u91 u92 u93 u94 u95 u96 u97 u98 u99 u100 u101 u102 u103 u104 u105 u106 u107 u108 u109 u110 u111 u112 u113 u114 u115 u116 u117 u118 u119 u120 u121 u122 u123 u124 u125 u126 u127 u128 u129 u130 u131 u132 u133 u134 u135 u136 u137 u138 u139 u140 u141 u142 u143 u144 u145 u146 u147 u148 u149 u150 u151 u152 u153 u154 u155 u156 u157 u158 u159 u160 u161 u162 u163 u164 u165 u166 u167 u168 u169 u170 u171 u172 u173 u174 u175 u176 u177 u178 u179 u180 u181 u182 u183 u184 u185 u186 u187 u188 u189 u190 u191 u192 u193 u194 u195 u196 u197 u198 u199 u200 u201 u202 u203 u204 u205 u206 u207 u208 u209 u210 u211 u212 u213 u214 u215 u216 u217 u218 u219 u220 u221 u222 u223 u224 u225 u226 u227
    dsimp only
    conv => arg 2; arg 1; whnf
    go_wp2_with fail
    exact unhide HZ _ ⟨rfl, rfl, rfl, rfl, rfl, rfl, rfl, rfl, rfl, rfl, rfl, rfl, rfl⟩
  · have HZ := hide (h2 hc)
    have t1 : ¬ (k : Int) < (N : Int) := by omega
    clear h1 h2 
    refine fr_open15 (fun a => Code.wp Try.prog (.seq (headC (tailC (tailC (tailC (innerC (tailC (innerC (innerC (tailC (tailC (tailC (tailC (innerC (headC (tailC (innerC (innerC (tailC (stm Try.f15.body 6))))))))))))))))))) (.cond (.tmp 76) X Y)) Q a w) a hF ?_
    intro u1 u2 u13 u14 u15 u16 u17 u18 u19 u20 u21 u22 u23 u24 u25 u26 u27 u28 u29 u30 u31 u32 u33 u34 u35 u36 u37 u38 u39 u40 u41 u42 u43 u44 u45 u46 u47 u48 u49 u50 u51 u52 u53 u54 u55 u56 u57 u58 u59 u60 u61 u62 u63 u64 u65 u66 u67 u68 u69 u70 u71 u72 u73 u74 u75 u76 u77 u78 u79 u80 u81 u82 u83 u84 u85 u86 u87 u88 u89 u90 u91 u92 u93 u94 u95 u96 u97 u98 u99 u100 u101 u102 u103 u104 u105 u106 u107 u108 u109 u110 u111 u112 u113 u114 u115 u116 u117 u118 u119 u120 u121 u122 u123 u124 u125 u126 u127 u128 u129 u130 u131 u132 u133 u134 u135 u136 u137 u138 u139 u140 u141 u142 u143 u144 u145 u146 u147 u148 u149 u150 u151 u152 u153 u154 u155 u156 u157 u158 u159 u160 u161 u162 u163 u164 u165 u166 u167 u168 u169 u170 u171 u172 u173 u174 u175 u176 u177 u178 u179 u180 u181 u182 u183 u184 u185 u186 u187 u188 u189 u190 u191 u192 u193 u194 u195 u196 u197 u198 u199 u200 u201 u202 u203 u204 u205 u206 u207 u208 u209 u210 u211 u212 u213 u214 u215 u216 u217 u218 u219 u220 u221 u222 u223 u224 u225 u226 u227
    dsimp only
    conv => arg 2; arg 1; whnf
    go_wp2_with fail
    exact unhide HZ _ ⟨rfl, rfl, rfl, rfl, rfl, rfl, rfl, rfl, rfl, rfl, rfl, rfl, rfl⟩

set_option maxHeartbeats 8000000 in
set_option maxRecDepth 100000 in
theorem sc18 (hk : k ≤ 1048576) (d1 : (w.cell? ⟨b7, m, Option.none⟩).isSome = true) (f1 : w.frozen? ⟨b7, m, Option.none⟩ = false)
    (hF : Fr15 a (.slice oa n oc) (.int .i64 (n : Nat)) (.slice (some ⟨b4, 0, Option.none⟩) n n) (.slice (some ⟨b5, 0, Option.none⟩) m5 n) (.slice (some ⟨b6, 0, Option.none⟩) m6 n) (.slice (some ⟨b7, 0, Option.none⟩) (m + 1) n) (s8) (.int .i64 (m : Nat)) (.int .i64 (v : Nat)) (.int .i64 (k : Nat)) (s12))
    (hZ : ∀ a', Fr15 a' (.slice oa n oc) (.int .i64 (n : Nat)) (.slice (some ⟨b4, 0, Option.none⟩) n n) (.slice (some ⟨b5, 0, Option.none⟩) m5 n) (.slice (some ⟨b6, 0, Option.none⟩) m6 n) (.slice (some ⟨b7, 0, Option.none⟩) (m + 1) n) (s8) (.int .i64 (m : Nat)) (.int .i64 (v : Nat)) (.int .i64 (k : Nat)) (s12) → Q .normal a' (w.setCell ⟨b7, m, Option.none⟩ (.int .i64 ((k + 1 : Nat) : Int)))) :
    Code.wp Try.prog (headC (condT (tailC (tailC (tailC (tailC (innerC (tailC (innerC (innerC (tailC (tailC (tailC (tailC (innerC (headC (tailC (innerC (innerC (tailC (stm Try.f15.body 6))))))))))))))))))))) Q a w := by
  have HZ := hide hZ
  obtain ⟨d, d1⟩ := Option.isSome_iff_exists.1 d1
  have lm : (m : Int) < ((m + 1 : Nat) : Int) := by omega
  clear hZ 
  refine fr_open15 (fun a => Code.wp Try.prog (headC (condT (tailC (tailC (tailC (tailC (innerC (tailC (innerC (innerC (tailC (tailC (tailC (tailC (innerC (headC (tailC (innerC (innerC (tailC (stm Try.f15.body 6))))))))))))))))))))) Q a w) a hF ?_
  intro u1 u2 u13 u14 u15 u16 u17 u18 u19 u20 u21 u22 u23 u24 u25 u26 u27 u28 u29 u30 u31 u32 u33 u34 u35 u36 u37 u38 u39 u40 u41 u42 u43 u44 u45 u46 u47 u48 u49 u50 u51 u52 u53 u54 u55 u56 u57 u58 u59 u60 u61 u62 u63 u64 u65 u66 u67 u68 u69 u70 u71 u72 u73 u74 u75 u76 u77 u78 u79 u80 u81 u82 u83 u84 u85 u86 u87 u88 u89 u90 u91 u92 u93 u94 u95 u96 u97 u98 u99 u100 u101 u102 u103 u104 u105 u106 u107 u108 u109 u110 u111 u112 u113 u114 u115 u116 u117 u118 u119 u120 u121 u122 u123 u124 u125 u126 u127 u128 u129 u130 u131 u132 u133 u134 u135 u136 u137 u138 u139 u140 u141 u142 u143 u144 u145 u146 u147 u148 u149 u150 u151 u152 u153 u154 u155 u156 u157 u158 u159 u160 u161 u162 u163 u164 u165 u166 u167 u168 u169 u170 u171 u172 u173 u174 u175 u176 u177 u178 u179 u180 u181 u182 u183 u184 u185 u186 u187 u188 u189 u190 u191 u192 u193 u194 u195 u196 u197 u198 u199 u200 u201 u202 u203 u204 u205 u206 u207 u208 u209 u210 u211 u212 u213 u214 u215 u216 u217 u218 u219 u220 u221 u222 u223 u224 u225 u226 u227
  dsimp only
  conv => arg 2; whnf
  go_wp2_with fail
  exact unhide HZ _ ⟨rfl, rfl, rfl, rfl, rfl, rfl, rfl, rfl, rfl, rfl, rfl, rfl, rfl⟩

set_option maxHeartbeats 8000000 in
set_option maxRecDepth 100000 in
theorem sc19 (hv : v < n) (hr : ∃ b off, oa = some ⟨b, off, Option.none⟩ ∧ w.cell? ⟨b, off + v, Option.none⟩ = some (.slice A N C)) (hk : k < N) (hg : ∃ b off, A = some ⟨b, off, Option.none⟩ ∧ w.cell? ⟨b, off + k, Option.none⟩ = some (.int .i64 (x : Nat)))
    (hF : Fr15 a (.slice oa n oc) (.int .i64 (n : Nat)) (.slice (some ⟨b4, 0, Option.none⟩) n n) (.slice (some ⟨b5, 0, Option.none⟩) m5 n) (.slice (some ⟨b6, 0, Option.none⟩) m6 n) (.slice (some ⟨b7, 0, Option.none⟩) m7 n) (s8) (.int .i64 (m : Nat)) (.int .i64 (v : Nat)) (.int .i64 (k : Nat)) (s12))
    (hZ : ∀ a', Fr15 a' (.slice oa n oc) (.int .i64 (n : Nat)) (.slice (some ⟨b4, 0, Option.none⟩) n n) (.slice (some ⟨b5, 0, Option.none⟩) m5 n) (.slice (some ⟨b6, 0, Option.none⟩) m6 n) (.slice (some ⟨b7, 0, Option.none⟩) m7 n) (s8) (.int .i64 (m : Nat)) (.int .i64 (v : Nat)) (.int .i64 (k : Nat)) (.int .i64 (x : Nat)) → Q .normal a' w) :
    Code.wp Try.prog (headC (tailC (condT (tailC (tailC (tailC (tailC (innerC (tailC (innerC (innerC (tailC (tailC (tailC (tailC (innerC (headC (tailC (innerC (innerC (tailC (stm Try.f15.body 6)))))))))))))))))))))) Q a w := by
  have HZ := hide hZ
  obtain ⟨b, off, rfl, hr⟩ := hr
  have lv : (v : Int) < (n : Int) := by omega
  obtain ⟨b', off', rfl, hg⟩ := hg
  have lk : (k : Int) < (N : Int) := by omega
  clear hZ 
  refine fr_open15 (fun a => Code.wp Try.prog (headC (tailC (condT (tailC (tailC (tailC (tailC (innerC (tailC (innerC (innerC (tailC (tailC (tailC (tailC (innerC (headC (tailC (innerC (innerC (tailC (stm Try.f15.body 6)))))))))))))))))))))) Q a w) a hF ?_
  intro u1 u2 u13 u14 u15 u16 u17 u18 u19 u20 u21 u22 u23 u24 u25 u26 u27 u28 u29 u30 u31 u32 u33 u34 u35 u36 u37 u38 u39 u40 u41 u42 u43 u44 u45 u46 u47 u48 u49 u50 u51 u52 u53 u54 u55 u56 u57 u58 u59 u60 u61 u62 u63 u64 u65 u66 u67 u68 u69 u70 u71 u72 u73 u74 u75 u76 u77 u78 u79 u80 u81 u82 u83 u84 u85 u86 u87 u88 u89 u90 u91 u92 u93 u94 u95 u96 u97 u98 u99 u100 u101 u102 u103 u104 u105 u106 u107 u108 u109 u110 u111 u112 u113 u114 u115 u116 u117 u118 u119 u120 u121 u122 u123 u124 u125 u126 u127 u128 u129 u130 u131 u132 u133 u134 u135 u136 u137 u138 u139 u140 u141 u142 u143 u144 u145 u146 u147 u148 u149 u150 u151 u152 u153 u154 u155 u156 u157 u158 u159 u160 u161 u162 u163 u164 u165 u166 u167 u168 u169 u170 u171 u172 u173 u174 u175 u176 u177 u178 u179 u180 u181 u182 u183 u184 u185 u186 u187 u188 u189 u190 u191 u192 u193 u194 u195 u196 u197 u198 u199 u200 u201 u202 u203 u204 u205 u206 u207 u208 u209 u210 u211 u212 u213 u214 u215 u216 u217 u218 u219 u220 u221 u222 u223 u224 u225 u226 u227
  dsimp only
  conv => arg 2; whnf
  go_wp2_with fail
  exact unhide HZ _ ⟨rfl, rfl, rfl, rfl, rfl, rfl, rfl, rfl, rfl, rfl, rfl, rfl, rfl⟩

set_option maxHeartbeats 8000000 in
set_option maxRecDepth 100000 in
theorem sc20 (X Y : Code) {vk : Bool} (hk : x < n) (d1 : w.cell? ⟨b4, x, Option.none⟩ = some (.bool vk))
    (hF : Fr15 a (.slice oa n oc) (.int .i64 (n : Nat)) (.slice (some ⟨b4, 0, Option.none⟩) n n) (.slice (some ⟨b5, 0, Option.none⟩) m5 n) (.slice (some ⟨b6, 0, Option.none⟩) m6 n) (.slice (some ⟨b7, 0, Option.none⟩) m7 n) (s8) (s9) (s10) (s11) (.int .i64 (x : Nat)))
    (h1 : vk = false → ∀ a', Fr15 a' (.slice oa n oc) (.int .i64 (n : Nat)) (.slice (some ⟨b4, 0, Option.none⟩) n n) (.slice (some ⟨b5, 0, Option.none⟩) m5 n) (.slice (some ⟨b6, 0, Option.none⟩) m6 n) (.slice (some ⟨b7, 0, Option.none⟩) m7 n) (s8) (s9) (s10) (s11) (.int .i64 (x : Nat)) → Code.wp Try.prog X Q a' w)
    (h2 : ¬ vk = false → ∀ a', Fr15 a' (.slice oa n oc) (.int .i64 (n : Nat)) (.slice (some ⟨b4, 0, Option.none⟩) n n) (.slice (some ⟨b5, 0, Option.none⟩) m5 n) (.slice (some ⟨b6, 0, Option.none⟩) m6 n) (.slice (some ⟨b7, 0, Option.none⟩) m7 n) (s8) (s9) (s10) (s11) (.int .i64 (x : Nat)) → Code.wp Try.prog Y Q a' w) :
    Code.wp Try.prog (.seq (headC (tailC (tailC (condT (tailC (tailC (tailC (tailC (innerC (tailC (innerC (innerC (tailC (tailC (tailC (tailC (innerC (headC (tailC (innerC (innerC (tailC (stm Try.f15.body 6))))))))))))))))))))))) (.cond (.tmp 93) X Y)) Q a w := by
  have lk : (x : Int) < (n : Int) := by omega
  by_cases hc : vk = false
  · have HZ := hide (h1 hc)
    subst hc
    clear h1 h2 
    refine fr_open15 (fun a => Code.wp Try.prog (.seq (headC (tailC (tailC (condT (tailC (tailC (tailC (tailC (innerC (tailC (innerC (innerC (tailC (tailC (tailC (tailC (innerC (headC (tailC (innerC (innerC (tailC (stm Try.f15.body 6))))))))))))))))))))))) (.cond (.tmp 93) X Y)) Q a w) a hF ?_
    intro u1 u2 u13 u14 u15 u16 u17 u18 u19 u20 u21 u22 u23 u24 u25 u26 u27 u28 u29 u30 u31 u32 u33 u34 u35 u36 u37 u38 u39 u40 u41 u42 u43 u44 u45 u46 u47 u48 u49 u50 u51 u52 u53 u54 u55 u56 u57 u58 u59 u60 u61 u62 u63 u64 u65 u66 u67 u68 u69 u70 u71 u72 u73 u74 u75 u76 u77 u78 u79 u80 u81 u82 u83 u84 u85 u86 u87 u88 u89 u90 u91 u92 u93 u94 u95 u96 u97 u98 u99 u100 u101 u102 u103 u104 u105 u106 u107 u108 u109 u110 u111 u112 u113 u114 u115 u116 u117 u118 u119 u120 u121 u122 u123 u124 u125 u126 u127 u128 u129 u130 u131 u132 u133 u134 u135 u136 u137 u138 u139 u140 u141 u142 u143 u144 u145 u146 u147 u148 u149 u150 u151 u152 u153 u154 u155 u156 u157 u158 u159 u160 u161 u162 u163 u164 u165 u166 u167 u168 u169 u170 u171 u172 u173 u174 u175 u176 u177 u178 u179 u180 u181 u182 u183 u184 u185 u186 u187 u188 u189 u190 u191 u192 u193 u194 u195 u196 u197 u198 u199 u200 u201 u202 u203 u204 u205 u206 u207 u208 u209 u210 u211 u212 u213 u214 u215 u216 u217 u218 u219 u220 u221 u222 u223 u224 u225 u226 u227
    dsimp only
    conv => arg 2; arg 1; whnf
    go_wp2_with fail
    exact unhide HZ _ ⟨rfl, rfl, rfl, rfl, rfl, rfl, rfl, rfl, rfl, rfl, rfl, rfl, rfl⟩
  · have HZ := hide (h2 hc)
    obtain rfl : vk = true := by simpa using hc
    clear h1 h2 
    refine fr_open15 (fun a => Code.wp Try.prog (.seq (headC (tailC (tailC (condT (tailC (tailC (tailC (tailC (innerC (tailC (innerC (innerC (tailC (tailC (tailC (tailC (innerC (headC (tailC (innerC (innerC (tailC (stm Try.f15.body 6))))))))))))))))))))))) (.cond (.tmp 93) X Y)) Q a w) a hF ?_
    intro u1 u2 u13 u14 u15 u16 u17 u18 u19 u20 u21 u22 u23 u24 u25 u26 u27 u28 u29 u30 u31 u32 u33 u34 u35 u36 u37 u38 u39 u40 u41 u42 u43 u44 u45 u46 u47 u48 u49 u50 u51 u52 u53 u54 u55 u56 u57 u58 u59 u60 u61 u62 u63 u64 u65 u66 u67 u68 u69 u70 u71 u72 u73 u74 u75 u76 u77 u78 u79 u80 u81 u82 u83 u84 u85 u86 u87 u88 u89 u90 u91 u92 u93 u94 u95 u96 u97 u98 u99 u100 u101 u102 u103 u104 u105 u106 u107 u108 u109 u110 u111 u112 u113 u114 u115 u116 u117 u118 u119 u120 u121 u122 u123 u124 u125 u126 u127 u128 u129 u130 u131 u132 u133 u134 u135 u136 u137 u138 u139 u140 u141 u142 u143 u144 u145 u146 u147 u148 u149 u150 u151 u152 u153 u154 u155 u156 u157 u158 u159 u160 u161 u162 u163 u164 u165 u166 u167 u168 u169 u170 u171 u172 u173 u174 u175 u176 u177 u178 u179 u180 u181 u182 u183 u184 u185 u186 u187 u188 u189 u190 u191 u192 u193 u194 u195 u196 u197 u198 u199 u200 u201 u202 u203 u204 u205 u206 u207 u208 u209 u210 u211 u212 u213 u214 u215 u216 u217 u218 u219 u220 u221 u222 u223 u224 u225 u226 u227
    dsimp only
    conv => arg 2; arg 1; whnf
    go_wp2_with fail
    exact unhide HZ _ ⟨rfl, rfl, rfl, rfl, rfl, rfl, rfl, rfl, rfl, rfl, rfl, rfl, rfl⟩

set_option maxHeartbeats 8000000 in
set_option maxRecDepth 100000 in
theorem sc21 (hk : x < n) (d1 : (w.cell? ⟨b4, x, Option.none⟩).isSome = true) (f1 : w.frozen? ⟨b4, x, Option.none⟩ = false)
    (hF : Fr15 a (.slice oa n oc) (.int .i64 (n : Nat)) (.slice (some ⟨b4, 0, Option.none⟩) n n) (.slice (some ⟨b5, 0, Option.none⟩) m5 n) (.slice (some ⟨b6, 0, Option.none⟩) m6 n) (.slice (some ⟨b7, 0, Option.none⟩) m7 n) (s8) (s9) (s10) (s11) (.int .i64 (x : Nat)))
    (hZ : ∀ a', Fr15 a' (.slice oa n oc) (.int .i64 (n : Nat)) (.slice (some ⟨b4, 0, Option.none⟩) n n) (.slice (some ⟨b5, 0, Option.none⟩) m5 n) (.slice (some ⟨b6, 0, Option.none⟩) m6 n) (.slice (some ⟨b7, 0, Option.none⟩) m7 n) (s8) (s9) (s10) (s11) (.int .i64 (x : Nat)) → Q .normal a' (w.setCell ⟨b4, x, Option.none⟩ (.bool true))) :
    Code.wp Try.prog (headC (condT (tailC (tailC (tailC (condT (tailC (tailC (tailC (tailC (innerC (tailC (innerC (innerC (tailC (tailC (tailC (tailC (innerC (headC (tailC (innerC (innerC (tailC (stm Try.f15.body 6))))))))))))))))))))))))) Q a w := by
  have HZ := hide hZ
  obtain ⟨d, d1⟩ := Option.isSome_iff_exists.1 d1
  have lk : ((x : Nat) : Int) < (n : Int) := by omega
  clear hZ 
  refine fr_open15 (fun a => Code.wp Try.prog (headC (condT (tailC (tailC (tailC (condT (tailC (tailC (tailC (tailC (innerC (tailC (innerC (innerC (tailC (tailC (tailC (tailC (innerC (headC (tailC (innerC (innerC (tailC (stm Try.f15.body 6))))))))))))))))))))))))) Q a w) a hF ?_
  intro u1 u2 u13 u14 u15 u16 u17 u18 u19 u20 u21 u22 u23 u24 u25 u26 u27 u28 u29 u30 u31 u32 u33 u34 u35 u36 u37 u38 u39 u40 u41 u42 u43 u44 u45 u46 u47 u48 u49 u50 u51 u52 u53 u54 u55 u56 u57 u58 u59 u60 u61 u62 u63 u64 u65 u66 u67 u68 u69 u70 u71 u72 u73 u74 u75 u76 u77 u78 u79 u80 u81 u82 u83 u84 u85 u86 u87 u88 u89 u90 u91 u92 u93 u94 u95 u96 u97 u98 u99 u100 u101 u102 u103 u104 u105 u106 u107 u108 u109 u110 u111 u112 u113 u114 u115 u116 u117 u118 u119 u120 u121 u122 u123 u124 u125 u126 u127 u128 u129 u130 u131 u132 u133 u134 u135 u136 u137 u138 u139 u140 u141 u142 u143 u144 u145 u146 u147 u148 u149 u150 u151 u152 u153 u154 u155 u156 u157 u158 u159 u160 u161 u162 u163 u164 u165 u166 u167 u168 u169 u170 u171 u172 u173 u174 u175 u176 u177 u178 u179 u180 u181 u182 u183 u184 u185 u186 u187 u188 u189 u190 u191 u192 u193 u194 u195 u196 u197 u198 u199 u200 u201 u202 u203 u204 u205 u206 u207 u208 u209 u210 u211 u212 u213 u214 u215 u216 u217 u218 u219 u220 u221 u222 u223 u224 u225 u226 u227
  dsimp only
  conv => arg 2; whnf
  go_wp2_with fail
  exact unhide HZ _ ⟨rfl, rfl, rfl, rfl, rfl, rfl, rfl, rfl, rfl, rfl, rfl, rfl, rfl⟩

set_option maxHeartbeats 8000000 in
set_option maxRecDepth 100000 in
theorem sc22 (hrun : (Builtin.append_ #[22, 22] 22 #[.slice (some ⟨b6, 0, Option.none⟩) m6 n, .slice (some ⟨w.heap.size, 0, Option.none⟩) 1 1]).run Try.prog (w.alloc (.cells #[.int .i64 (x : Nat)] 3)) = .ok (.slice (some ⟨b6, 0, Option.none⟩) (m6 + 1) n) w')
    (hF : Fr15 a (.slice oa n oc) (.int .i64 (n : Nat)) (.slice (some ⟨b4, 0, Option.none⟩) n n) (.slice (some ⟨b5, 0, Option.none⟩) m5 n) (.slice (some ⟨b6, 0, Option.none⟩) m6 n) (.slice (some ⟨b7, 0, Option.none⟩) m7 n) (s8) (s9) (s10) (s11) (.int .i64 (x : Nat)))
    (hZ : ∀ a', Fr15 a' (.slice oa n oc) (.int .i64 (n : Nat)) (.slice (some ⟨b4, 0, Option.none⟩) n n) (.slice (some ⟨b5, 0, Option.none⟩) m5 n) (.slice (some ⟨b6, 0, Option.none⟩) (m6 + 1) n) (.slice (some ⟨b7, 0, Option.none⟩) m7 n) (s8) (s9) (s10) (s11) (.int .i64 (x : Nat)) → Q .normal a' w') :
    Code.wp Try.prog (headC (tailC (condT (tailC (tailC (tailC (condT (tailC (tailC (tailC (tailC (innerC (tailC (innerC (innerC (tailC (tailC (tailC (tailC (innerC (headC (tailC (innerC (innerC (tailC (stm Try.f15.body 6)))))))))))))))))))))))))) Q a w := by
  have HZ := hide hZ
  clear hZ 
  refine fr_open15 (fun a => Code.wp Try.prog (headC (tailC (condT (tailC (tailC (tailC (condT (tailC (tailC (tailC (tailC (innerC (tailC (innerC (innerC (tailC (tailC (tailC (tailC (innerC (headC (tailC (innerC (innerC (tailC (stm Try.f15.body 6)))))))))))))))))))))))))) Q a w) a hF ?_
  intro u1 u2 u13 u14 u15 u16 u17 u18 u19 u20 u21 u22 u23 u24 u25 u26 u27 u28 u29 u30 u31 u32 u33 u34 u35 u36 u37 u38 u39 u40 u41 u42 u43 u44 u45 u46 u47 u48 u49 u50 u51 u52 u53 u54 u55 u56 u57 u58 u59 u60 u61 u62 u63 u64 u65 u66 u67 u68 u69 u70 u71 u72 u73 u74 u75 u76 u77 u78 u79 u80 u81 u82 u83 u84 u85 u86 u87 u88 u89 u90 u91 u92 u93 u94 u95 u96 u97 u98 u99 u100 u101 u102 u103 u104 u105 u106 u107 u108 u109 u110 u111 u112 u113 u114 u115 u116 u117 u118 u119 u120 u121 u122 u123 u124 u125 u126 u127 u128 u129 u130 u131 u132 u133 u134 u135 u136 u137 u138 u139 u140 u141 u142 u143 u144 u145 u146 u147 u148 u149 u150 u151 u152 u153 u154 u155 u156 u157 u158 u159 u160 u161 u162 u163 u164 u165 u166 u167 u168 u169 u170 u171 u172 u173 u174 u175 u176 u177 u178 u179 u180 u181 u182 u183 u184 u185 u186 u187 u188 u189 u190 u191 u192 u193 u194 u195 u196 u197 u198 u199 u200 u201 u202 u203 u204 u205 u206 u207 u208 u209 u210 u211 u212 u213 u214 u215 u216 u217 u218 u219 u220 u221 u222 u223 u224 u225 u226 u227
  dsimp only
  conv => arg 2; whnf
  go_wp2_with (at_builtin; refine Lib.wpList_append_run _ rfl _ _ _ _ rfl _ _ rfl rfl _ _ hrun ?_)
  exact unhide HZ _ ⟨rfl, rfl, rfl, rfl, rfl, rfl, rfl, rfl, rfl, rfl, rfl, rfl, rfl⟩

set_option maxHeartbeats 8000000 in
set_option maxRecDepth 100000 in
theorem sc23 (hrun : (Builtin.append_ #[22, 22] 22 #[.slice (some ⟨b7, 0, Option.none⟩) m7 n, .slice (some ⟨w.heap.size, 0, Option.none⟩) 1 1]).run Try.prog (w.alloc (.cells #[.int .i64 0] 3)) = .ok (.slice (some ⟨b7, 0, Option.none⟩) (m7 + 1) n) w')
    (hF : Fr15 a (.slice oa n oc) (.int .i64 (n : Nat)) (.slice (some ⟨b4, 0, Option.none⟩) n n) (.slice (some ⟨b5, 0, Option.none⟩) m5 n) (.slice (some ⟨b6, 0, Option.none⟩) m6 n) (.slice (some ⟨b7, 0, Option.none⟩) m7 n) (s8) (s9) (s10) (s11) (s12))
    (hZ : ∀ a', Fr15 a' (.slice oa n oc) (.int .i64 (n : Nat)) (.slice (some ⟨b4, 0, Option.none⟩) n n) (.slice (some ⟨b5, 0, Option.none⟩) m5 n) (.slice (some ⟨b6, 0, Option.none⟩) m6 n) (.slice (some ⟨b7, 0, Option.none⟩) (m7 + 1) n) (s8) (s9) (s10) (s11) (s12) → Q .normal a' w') :
    Code.wp Try.prog (tailC (tailC (condT (tailC (tailC (tailC (condT (tailC (tailC (tailC (tailC (innerC (tailC (innerC (innerC (tailC (tailC (tailC (tailC (innerC (headC (tailC (innerC (innerC (tailC (stm Try.f15.body 6)))))))))))))))))))))))))) Q a w := by
  have HZ := hide hZ
  clear hZ 
  refine fr_open15 (fun a => Code.wp Try.prog (tailC (tailC (condT (tailC (tailC (tailC (condT (tailC (tailC (tailC (tailC (innerC (tailC (innerC (innerC (tailC (tailC (tailC (tailC (innerC (headC (tailC (innerC (innerC (tailC (stm Try.f15.body 6)))))))))))))))))))))))))) Q a w) a hF ?_
  intro u1 u2 u13 u14 u15 u16 u17 u18 u19 u20 u21 u22 u23 u24 u25 u26 u27 u28 u29 u30 u31 u32 u33 u34 u35 u36 u37 u38 u39 u40 u41 u42 u43 u44 u45 u46 u47 u48 u49 u50 u51 u52 u53 u54 u55 u56 u57 u58 u59 u60 u61 u62 u63 u64 u65 u66 u67 u68 u69 u70 u71 u72 u73 u74 u75 u76 u77 u78 u79 u80 u81 u82 u83 u84 u85 u86 u87 u88 u89 u90 u91 u92 u93 u94 u95 u96 u97 u98 u99 u100 u101 u102 u103 u104 u105 u106 u107 u108 u109 u110 u111 u112 u113 u114 u115 u116 u117 u118 u119 u120 u121 u122 u123 u124 u125 u126 u127 u128 u129 u130 u131 u132 u133 u134 u135 u136 u137 u138 u139 u140 u141 u142 u143 u144 u145 u146 u147 u148 u149 u150 u151 u152 u153 u154 u155 u156 u157 u158 u159 u160 u161 u162 u163 u164 u165 u166 u167 u168 u169 u170 u171 u172 u173 u174 u175 u176 u177 u178 u179 u180 u181 u182 u183 u184 u185 u186 u187 u188 u189 u190 u191 u192 u193 u194 u195 u196 u197 u198 u199 u200 u201 u202 u203 u204 u205 u206 u207 u208 u209 u210 u211 u212 u213 u214 u215 u216 u217 u218 u219 u220 u221 u222 u223 u224 u225 u226 u227
  dsimp only
  conv => arg 2; whnf
  go_wp2_with (at_builtin; refine Lib.wpList_append_run _ rfl _ _ _ _ rfl _ _ rfl rfl _ _ hrun ?_)
  exact unhide HZ _ ⟨rfl, rfl, rfl, rfl, rfl, rfl, rfl, rfl, rfl, rfl, rfl, rfl, rfl⟩

set_option maxHeartbeats 8000000 in
set_option maxRecDepth 100000 in
theorem sc24 (hm : m + 1 ≤ n)
    (hF : Fr15 a (.slice oa n oc) (.int .i64 (n : Nat)) (.slice (some ⟨b4, 0, Option.none⟩) n n) (.slice (some ⟨b5, 0, Option.none⟩) m5 n) (.slice (some ⟨b6, 0, Option.none⟩) (m + 1) n) (.slice (some ⟨b7, 0, Option.none⟩) m7 n) (s8) (.int .i64 (m : Nat)) (s10) (s11) (s12))
    (hZ : ∀ a', Fr15 a' (.slice oa n oc) (.int .i64 (n : Nat)) (.slice (some ⟨b4, 0, Option.none⟩) n n) (.slice (some ⟨b5, 0, Option.none⟩) m5 n) (.slice (some ⟨b6, 0, Option.none⟩) m n) (.slice (some ⟨b7, 0, Option.none⟩) m7 n) (s8) (.int .i64 (m : Nat)) (s10) (s11) (s12) → Q .normal a' w) :
    Code.wp Try.prog (headC (condF (tailC (tailC (tailC (tailC (innerC (tailC (innerC (innerC (tailC (tailC (tailC (tailC (innerC (headC (tailC (innerC (innerC (tailC (stm Try.f15.body 6))))))))))))))))))))) Q a w := by
  have HZ := hide hZ
  have l1 : (m : Int) ≤ ((m + 1 : Nat) : Int) := by omega
  have l2 : (m : Int) ≤ ((n : Nat) : Int) := by omega
  have l3 : ¬ n = 0 := by omega
  clear hZ 
  refine fr_open15 (fun a => Code.wp Try.prog (headC (condF (tailC (tailC (tailC (tailC (innerC (tailC (innerC (innerC (tailC (tailC (tailC (tailC (innerC (headC (tailC (innerC (innerC (tailC (stm Try.f15.body 6))))))))))))))))))))) Q a w) a hF ?_
  intro u1 u2 u13 u14 u15 u16 u17 u18 u19 u20 u21 u22 u23 u24 u25 u26 u27 u28 u29 u30 u31 u32 u33 u34 u35 u36 u37 u38 u39 u40 u41 u42 u43 u44 u45 u46 u47 u48 u49 u50 u51 u52 u53 u54 u55 u56 u57 u58 u59 u60 u61 u62 u63 u64 u65 u66 u67 u68 u69 u70 u71 u72 u73 u74 u75 u76 u77 u78 u79 u80 u81 u82 u83 u84 u85 u86 u87 u88 u89 u90 u91 u92 u93 u94 u95 u96 u97 u98 u99 u100 u101 u102 u103 u104 u105 u106 u107 u108 u109 u110 u111 u112 u113 u114 u115 u116 u117 u118 u119 u120 u121 u122 u123 u124 u125 u126 u127 u128 u129 u130 u131 u132 u133 u134 u135 u136 u137 u138 u139 u140 u141 u142 u143 u144 u145 u146 u147 u148 u149 u150 u151 u152 u153 u154 u155 u156 u157 u158 u159 u160 u161 u162 u163 u164 u165 u166 u167 u168 u169 u170 u171 u172 u173 u174 u175 u176 u177 u178 u179 u180 u181 u182 u183 u184 u185 u186 u187 u188 u189 u190 u191 u192 u193 u194 u195 u196 u197 u198 u199 u200 u201 u202 u203 u204 u205 u206 u207 u208 u209 u210 u211 u212 u213 u214 u215 u216 u217 u218 u219 u220 u221 u222 u223 u224 u225 u226 u227
  dsimp only
  conv => arg 2; whnf
  go_wp2_with fail
  exact unhide HZ _ ⟨rfl, rfl, rfl, rfl, rfl, rfl, rfl, rfl, rfl, rfl, rfl, rfl, rfl⟩

set_option maxHeartbeats 8000000 in
set_option maxRecDepth 100000 in
theorem sc25 (hm : m + 1 ≤ n)
    (hF : Fr15 a (.slice oa n oc) (.int .i64 (n : Nat)) (.slice (some ⟨b4, 0, Option.none⟩) n n) (.slice (some ⟨b5, 0, Option.none⟩) m5 n) (.slice (some ⟨b6, 0, Option.none⟩) m6 n) (.slice (some ⟨b7, 0, Option.none⟩) (m + 1) n) (s8) (.int .i64 (m : Nat)) (s10) (s11) (s12))
    (hZ : ∀ a', Fr15 a' (.slice oa n oc) (.int .i64 (n : Nat)) (.slice (some ⟨b4, 0, Option.none⟩) n n) (.slice (some ⟨b5, 0, Option.none⟩) m5 n) (.slice (some ⟨b6, 0, Option.none⟩) m6 n) (.slice (some ⟨b7, 0, Option.none⟩) m n) (s8) (.int .i64 (m : Nat)) (s10) (s11) (s12) → Q .normal a' w) :
    Code.wp Try.prog (headC (tailC (condF (tailC (tailC (tailC (tailC (innerC (tailC (innerC (innerC (tailC (tailC (tailC (tailC (innerC (headC (tailC (innerC (innerC (tailC (stm Try.f15.body 6)))))))))))))))))))))) Q a w := by
  have HZ := hide hZ
  have l1 : (m : Int) ≤ ((m + 1 : Nat) : Int) := by omega
  have l2 : (m : Int) ≤ ((n : Nat) : Int) := by omega
  have l3 : ¬ n = 0 := by omega
  clear hZ 
  refine fr_open15 (fun a => Code.wp Try.prog (headC (tailC (condF (tailC (tailC (tailC (tailC (innerC (tailC (innerC (innerC (tailC (tailC (tailC (tailC (innerC (headC (tailC (innerC (innerC (tailC (stm Try.f15.body 6)))))))))))))))))))))) Q a w) a hF ?_
  intro u1 u2 u13 u14 u15 u16 u17 u18 u19 u20 u21 u22 u23 u24 u25 u26 u27 u28 u29 u30 u31 u32 u33 u34 u35 u36 u37 u38 u39 u40 u41 u42 u43 u44 u45 u46 u47 u48 u49 u50 u51 u52 u53 u54 u55 u56 u57 u58 u59 u60 u61 u62 u63 u64 u65 u66 u67 u68 u69 u70 u71 u72 u73 u74 u75 u76 u77 u78 u79 u80 u81 u82 u83 u84 u85 u86 u87 u88 u89 u90 u91 u92 u93 u94 u95 u96 u97 u98 u99 u100 u101 u102 u103 u104 u105 u106 u107 u108 u109 u110 u111 u112 u113 u114 u115 u116 u117 u118 u119 u120 u121 u122 u123 u124 u125 u126 u127 u128 u129 u130 u131 u132 u133 u134 u135 u136 u137 u138 u139 u140 u141 u142 u143 u144 u145 u146 u147 u148 u149 u150 u151 u152 u153 u154 u155 u156 u157 u158 u159 u160 u161 u162 u163 u164 u165 u166 u167 u168 u169 u170 u171 u172 u173 u174 u175 u176 u177 u178 u179 u180 u181 u182 u183 u184 u185 u186 u187 u188 u189 u190 u191 u192 u193 u194 u195 u196 u197 u198 u199 u200 u201 u202 u203 u204 u205 u206 u207 u208 u209 u210 u211 u212 u213 u214 u215 u216 u217 u218 u219 u220 u221 u222 u223 u224 u225 u226 u227
  dsimp only
  conv => arg 2; whnf
  go_wp2_with fail
  exact unhide HZ _ ⟨rfl, rfl, rfl, rfl, rfl, rfl, rfl, rfl, rfl, rfl, rfl, rfl, rfl⟩

set_option maxHeartbeats 8000000 in
set_option maxRecDepth 100000 in
theorem sc26 (hrun : (Builtin.append_ #[22, 22] 22 #[.slice (some ⟨b5, 0, Option.none⟩) m5 n, .slice (some ⟨w.heap.size, 0, Option.none⟩) 1 1]).run Try.prog (w.alloc (.cells #[.int .i64 (v : Nat)] 3)) = .ok (.slice (some ⟨b5, 0, Option.none⟩) (m5 + 1) n) w')
    (hF : Fr15 a (.slice oa n oc) (.int .i64 (n : Nat)) (.slice (some ⟨b4, 0, Option.none⟩) n n) (.slice (some ⟨b5, 0, Option.none⟩) m5 n) (.slice (some ⟨b6, 0, Option.none⟩) m6 n) (.slice (some ⟨b7, 0, Option.none⟩) m7 n) (s8) (s9) (.int .i64 (v : Nat)) (s11) (s12))
    (hZ : ∀ a', Fr15 a' (.slice oa n oc) (.int .i64 (n : Nat)) (.slice (some ⟨b4, 0, Option.none⟩) n n) (.slice (some ⟨b5, 0, Option.none⟩) (m5 + 1) n) (.slice (some ⟨b6, 0, Option.none⟩) m6 n) (.slice (some ⟨b7, 0, Option.none⟩) m7 n) (s8) (s9) (.int .i64 (v : Nat)) (s11) (s12) → Q .normal a' w') :
    Code.wp Try.prog (tailC (tailC (condF (tailC (tailC (tailC (tailC (innerC (tailC (innerC (innerC (tailC (tailC (tailC (tailC (innerC (headC (tailC (innerC (innerC (tailC (stm Try.f15.body 6)))))))))))))))))))))) Q a w := by
  have HZ := hide hZ
  clear hZ 
  refine fr_open15 (fun a => Code.wp Try.prog (tailC (tailC (condF (tailC (tailC (tailC (tailC (innerC (tailC (innerC (innerC (tailC (tailC (tailC (tailC (innerC (headC (tailC (innerC (innerC (tailC (stm Try.f15.body 6)))))))))))))))))))))) Q a w) a hF ?_
  intro u1 u2 u13 u14 u15 u16 u17 u18 u19 u20 u21 u22 u23 u24 u25 u26 u27 u28 u29 u30 u31 u32 u33 u34 u35 u36 u37 u38 u39 u40 u41 u42 u43 u44 u45 u46 u47 u48 u49 u50 u51 u52 u53 u54 u55 u56 u57 u58 u59 u60 u61 u62 u63 u64 u65 u66 u67 u68 u69 u70 u71 u72 u73 u74 u75 u76 u77 u78 u79 u80 u81 u82 u83 u84 u85 u86 u87 u88 u89 u90 u91 u92 u93 u94 u95 u96 u97 u98 u99 u100 u101 u102 u103 u104 u105 u106 u107 u108 u109 u110 u111 u112 u113 u114 u115 u116 u117 u118 u119 u120 u121 u122 u123 u124 u125 u126 u127 u128 u129 u130 u131 u132 u133 u134 u135 u136 u137 u138 u139 u140 u141 u142 u143 u144 u145 u146 u147 u148 u149 u150 u151 u152 u153 u154 u155 u156 u157 u158 u159 u160 u161 u162 u163 u164 u165 u166 u167 u168 u169 u170 u171 u172 u173 u174 u175 u176 u177 u178 u179 u180 u181 u182 u183 u184 u185 u186 u187 u188 u189 u190 u191 u192 u193 u194 u195 u196 u197 u198 u199 u200 u201 u202 u203 u204 u205 u206 u207 u208 u209 u210 u211 u212 u213 u214 u215 u216 u217 u218 u219 u220 u221 u222 u223 u224 u225 u226 u227
  dsimp only
  conv => arg 2; whnf
  go_wp2_with (at_builtin; refine Lib.wpList_append_run _ rfl _ _ _ _ rfl _ _ rfl rfl _ _ hrun ?_)
  exact unhide HZ _ ⟨rfl, rfl, rfl, rfl, rfl, rfl, rfl, rfl, rfl, rfl, rfl, rfl, rfl⟩

set_option maxHeartbeats 8000000 in
set_option maxRecDepth 100000 in
theorem sc8 (hk : k ≤ 1048576)
    (hF : Fr15 a (.slice oa n oc) (.int .i64 (n : Nat)) (.slice (some ⟨b4, 0, Option.none⟩) n n) (.slice (some ⟨b5, 0, Option.none⟩) m5 n) (.slice (some ⟨b6, 0, Option.none⟩) m6 n) (.slice (some ⟨b7, 0, Option.none⟩) m7 n) (.int .i64 (k : Nat)) (s9) (s10) (s11) (s12))
    (hZ : ∀ a', Fr15 a' (.slice oa n oc) (.int .i64 (n : Nat)) (.slice (some ⟨b4, 0, Option.none⟩) n n) (.slice (some ⟨b5, 0, Option.none⟩) m5 n) (.slice (some ⟨b6, 0, Option.none⟩) m6 n) (.slice (some ⟨b7, 0, Option.none⟩) m7 n) (.int .i64 ((k + 1 : Nat) : Int)) (s9) (s10) (s11) (s12) → Q .normal a' w) :
    Code.wp Try.prog (tailC (tailC (innerC (innerC (tailC (stm Try.f15.body 6)))))) Q a w := by
  have HZ := hide hZ
  clear hZ 
  refine fr_open15 (fun a => Code.wp Try.prog (tailC (tailC (innerC (innerC (tailC (stm Try.f15.body 6)))))) Q a w) a hF ?_
  intro u1 u2 u13 u14 u15 u16 u17 u18 u19 u20 u21 u22 u23 u24 u25 u26 u27 u28 u29 u30 u31 u32 u33 u34 u35 u36 u37 u38 u39 u40 u41 u42 u43 u44 u45 u46 u47 u48 u49 u50 u51 u52 u53 u54 u55 u56 u57 u58 u59 u60 u61 u62 u63 u64 u65 u66 u67 u68 u69 u70 u71 u72 u73 u74 u75 u76 u77 u78 u79 u80 u81 u82 u83 u84 u85 u86 u87 u88 u89 u90 u91 u92 u93 u94 u95 u96 u97 u98 u99 u100 u101 u102 u103 u104 u105 u106 u107 u108 u109 u110 u111 u112 u113 u114 u115 u116 u117 u118 u119 u120 u121 u122 u123 u124 u125 u126 u127 u128 u129 u130 u131 u132 u133 u134 u135 u136 u137 u138 u139 u140 u141 u142 u143 u144 u145 u146 u147 u148 u149 u150 u151 u152 u153 u154 u155 u156 u157 u158 u159 u160 u161 u162 u163 u164 u165 u166 u167 u168 u169 u170 u171 u172 u173 u174 u175 u176 u177 u178 u179 u180 u181 u182 u183 u184 u185 u186 u187 u188 u189 u190 u191 u192 u193 u194 u195 u196 u197 u198 u199 u200 u201 u202 u203 u204 u205 u206 u207 u208 u209 u210 u211 u212 u213 u214 u215 u216 u217 u218 u219 u220 u221 u222 u223 u224 u225 u226 u227
  dsimp only
  conv => arg 2; whnf
  go_wp2_with fail
  exact unhide HZ _ ⟨rfl, rfl, rfl, rfl, rfl, rfl, rfl, rfl, rfl, rfl, rfl, rfl, rfl⟩

end Go.Proofs.Qxb6602460a
