import Derived.Test.Qxb6602460aL5F
namespace Go.Proofs.Qxb6602460a
open Go.RowKit Go.Maps Go.Own

variable {n nn s b7 b11 b13 b21 m13 m21 c21 : Nat} {na oa ra : Option Addr} {nc oc rc : Nat} {w w' : World} {Q : Exit → Act → World → Prop} {a : Act} {s0 s1 s5 s6 s7 s8 s9 s10 s11 s13 s14 s15 s17 s18 s20 s21 s22 s23 s24 s26 s126 s127 s128 s153 s154 s155 s204 s205 s206 : Value} {A : Option Addr} {N C j k x v y m L h : Nat} {p z : Int}

set_option maxHeartbeats 8000000 in
set_option maxRecDepth 100000 in
theorem lc24 (R : Ending → World → Prop) (hcall : Calls Try.prog 17 #[.slice oa n oc] w R)
    (hF : Fr5b a (.slice na n nc) (.slice oa n oc) (s5) (.int .i64 (n : Nat)) (s7) (.int .i64 (s : Nat)) (s9))
    (hR : ∀ e w', R e w' → ∃ v', e = .returned v')
    (hZ : ∀ a' w' v' s11 s13 s14 s15 s17 s126 s127 s128, R (.returned v') w' → Fr5c a' (.slice na n nc) (.slice oa n oc) (s5) (.int .i64 (n : Nat)) (.int .i64 (s : Nat)) (v') (s11) (s13) (s14) (s15) (s17) (s126) (s127) (s128) → Q .normal a' w') :
    Code.wp Try.prog (stm Try.f5.body 14) Q a w := by
  have HZ := hide hZ
  have HR := hide hR
  clear hZ hR
  refine fr_open5b (fun a => Code.wp Try.prog (stm Try.f5.body 14) Q a w) a hF ?_
  intro u2 u3 u4 u10 u11 u12 u13 u14 u15 u16 u17 u18 u19 u20 u21 u22 u23 u24 u25 u26 u27 u28 u29 u30 u31 u32 u33 u34 u35 u36 u37 u38 u39 u40 u41 u42 u43 u44 u45 u46 u47 u48 u49 u50 u51 u52 u53 u54 u55 u56 u57 u58 u59 u60 u61 u62 u63 u64 u65 u66 u67 u68 u69 u70 u71 u72 u73 u74 u75 u76 u77 u78 u79 u80 u81 u82 u83 u84 u85 u86 u87 u88 u89 u90 u91 u92 u93 u94 u95 u96 u97 u98 u99 u100 u101 u102 u103 u104 u105 u106 u107 u108 u109 u110 u111 u112 u113 u114 u115 u116 u117 u118 u119 u120 u121 u122 u123 u124 u125 u126 u127 u128 u129 u130 u131 u132 u133 u134 u135 u136 u137 u138 u139 u140 u141 u142 u143 u144 u145 u146 u147 u148 u149 u150 u151 u152 u153 u154 u155 u156 u157 u158 u159 u160 u161 u162 u163 u164 u165 u166 u167 u168 u169 u170 u171 u172 u173 u174 u175 u176 u177 u178 u179 u180 u181 u182 u183 u184 u185 u186 u187 u188 u189 u190 u191 u192 u193 u194 u195 u196 u197 u198 u199 u200 u201 u202 u203 u204 u205 u206 u207 u208 u209 u210 u211 u212 u213 u214 u215 u216 u217 u218 u219 u220 u221 u222 u223 u224 u225 u226 u227 u228 u229 u230 u231 u232 u233 u234 u235 u236 u237 u238 u239 u240
  dsimp only
  conv => arg 2; whnf
  go_wp2_with fail
  refine hcall.mono ?_
  intro e w2 hr
  obtain ⟨v', he⟩ := unhide HR e w2 hr
  subst he
  have HQ := hide hr
  clear hr
  go_wp2_with fail
  exact unhide HZ _ _ _ _ _ _ _ _ _ _ _ (unhide HQ) ⟨rfl, rfl, rfl, rfl, rfl, rfl, rfl, rfl, rfl, rfl, rfl, rfl, rfl, rfl, rfl, rfl⟩

set_option maxHeartbeats 8000000 in
set_option maxRecDepth 100000 in
theorem lc25 (Z : Code) (hn : n ≤ 65536) (hs : s < n)
    (hF : Fr5c a (.slice na n nc) (.slice oa n oc) (s5) (.int .i64 (n : Nat)) (.int .i64 (s : Nat)) (.slice ra n rc) (s11) (s13) (s14) (s15) (s17) (s126) (s127) (s128))
    (hZ : ∀ a' w', Below w.heap.size w w' → w'.heap.size = w.heap.size + 1 → w'.rowIs w.heap.size 3 n (fun i => .int .i64 (updI (fun _ => -1) s 0 i)) → Fr5c a' (.slice na n nc) (.slice oa n oc) (s5) (.int .i64 (n : Nat)) (.int .i64 (s : Nat)) (.slice ra n rc) (.slice (some ⟨w.heap.size, 0, Option.none⟩) n n) (s13) (s14) (s15) (s17) (s126) (s127) (s128) → Code.wp Try.prog Z Q a' w') :
    Code.wp Try.prog (.seq (stm Try.f5.body 15) (.seq (stm Try.f5.body 16) (.seq (stm Try.f5.body 17) Z))) Q a w := by
  have HZ := hide hZ
  have hmk := run_make_row' (P := Try.prog) 22 3 (.int .i64 0) 8 Try.underlying22 Try.info3 rfl .i64 .i64 n (by omega) (by omega)
  have lsn : (s : Int) < (n : Int) := by omega
  clear hZ
  refine fr_open5c (fun a => Code.wp Try.prog (.seq (stm Try.f5.body 15) (.seq (stm Try.f5.body 16) (.seq (stm Try.f5.body 17) Z))) Q a w) a hF ?_
  intro u2 u3 u4 u7 u9 u12 u16 u18 u19 u20 u21 u22 u23 u24 u25 u26 u27 u28 u29 u30 u31 u32 u33 u34 u35 u36 u37 u38 u39 u40 u41 u42 u43 u44 u45 u46 u47 u48 u49 u50 u51 u52 u53 u54 u55 u56 u57 u58 u59 u60 u61 u62 u63 u64 u65 u66 u67 u68 u69 u70 u71 u72 u73 u74 u75 u76 u77 u78 u79 u80 u81 u82 u83 u84 u85 u86 u87 u88 u89 u90 u91 u92 u93 u94 u95 u96 u97 u98 u99 u100 u101 u102 u103 u104 u105 u106 u107 u108 u109 u110 u111 u112 u113 u114 u115 u116 u117 u118 u119 u120 u121 u122 u123 u124 u125 u129 u130 u131 u132 u133 u134 u135 u136 u137 u138 u139 u140 u141 u142 u143 u144 u145 u146 u147 u148 u149 u150 u151 u152 u153 u154 u155 u156 u157 u158 u159 u160 u161 u162 u163 u164 u165 u166 u167 u168 u169 u170 u171 u172 u173 u174 u175 u176 u177 u178 u179 u180 u181 u182 u183 u184 u185 u186 u187 u188 u189 u190 u191 u192 u193 u194 u195 u196 u197 u198 u199 u200 u201 u202 u203 u204 u205 u206 u207 u208 u209 u210 u211 u212 u213 u214 u215 u216 u217 u218 u219 u220 u221 u222 u223 u224 u225 u226 u227 u228 u229 u230 u231 u232 u233 u234 u235 u236 u237 u238 u239 u240
  dsimp only
  conv => arg 2; arg 1; whnf
  conv => arg 2; arg 2; arg 1; whnf
  conv => arg 2; arg 2; arg 2; arg 1; whnf
  go_wp2_with fail
  go_loopw [12] (fun i wr => ∃ k : Nat, k ≤ n ∧ i = .int .i64 k ∧ Below w.heap.size w wr ∧ wr.heap.size = w.heap.size + 1 ∧ wr.rowIs w.heap.size 3 n (fun i => if i < k then .int .i64 (-1) else .int .i64 0)) (fun i _ => n - (intOf i).toNat)
  case atStart =>
    refine ⟨0, Nat.zero_le _, rfl, (Below.refl _ _).alloc (Nat.le_refl _) _, by simp, ?_⟩
    simpa using World.rowIs_made w (.int .i64 0) n 3
  case round =>
    obtain ⟨k, hk, rfl, hb, hsz, hrow⟩ := hrel
    by_cases hlt : k < n
    · have hd := hrow.cell hlt
      have hf := hrow.frozen k
      have lk : (k : Int) < (n : Int) := by omega
      have HB := hide (And.intro hb hsz)
      have HR := hide hrow
      clear hb hrow hsz
      go_wp2_with fail
      go_roundw
      case rel => exact ⟨k + 1, by omega, by go_num, (unhide HB).1.setCell (Nat.le_refl _) _, by simpa using (unhide HB).2, ((unhide HR).set k _).congr fun i hi => fill_step i k (fun _ => .int .i64 (-1)) _⟩
      case measure => simp [intOf]; omega
    · obtain rfl : k = n := by omega
      have hrow2 : wr.rowIs w.heap.size 3 k (fun _ => .int .i64 (-1)) := hrow.congr fun i hi => if_pos hi
      have hd := hrow2.cell hs
      have hf := hrow2.frozen s
      have HB := hide (And.intro hb hsz)
      have HR := hide hrow2
      clear hb hrow hrow2 hsz
      go_wp2_with fail
      exact unhide HZ _ _ ((unhide HB).1.setCell (Nat.le_refl _) _) (by simpa using (unhide HB).2) (((unhide HR).set s _).congr fun i hi => by unfold updI; split <;> rfl) ⟨rfl, rfl, rfl, rfl, rfl, rfl, rfl, rfl, rfl, rfl, rfl, rfl, rfl, rfl, rfl, rfl⟩

set_option maxHeartbeats 8000000 in
set_option maxRecDepth 100000 in
theorem lc31 (hmk0 : ∀ w, (Instr.makeSlice 22 (.int .i64 0) (.int .i64 (n : Nat))).run Try.prog w = .ok (.slice (some ⟨w.heap.size, 0, Option.none⟩) 0 n) (w.alloc (.cells (madeCells #[.int .i64 0] n) 3)))
    (hF : Fr5c a (.slice na n nc) (.slice oa n oc) (s5) (.int .i64 (n : Nat)) (.int .i64 (s : Nat)) (.slice ra n rc) (.slice (some ⟨b11, 0, Option.none⟩) n n) (s13) (s14) (s15) (s17) (s126) (s127) (s128))
    (hZ : ∀ a', Fr5c a' (.slice na n nc) (.slice oa n oc) (s5) (.int .i64 (n : Nat)) (.int .i64 (s : Nat)) (.slice ra n rc) (.slice (some ⟨b11, 0, Option.none⟩) n n) (.slice (some ⟨w.heap.size, 0, Option.none⟩) 0 n) (s14) (s15) (s17) (s126) (s127) (s128) → Q .normal a' (w.alloc (.cells (madeCells #[.int .i64 0] n) 3))) :
    Code.wp Try.prog (stm Try.f5.body 18) Q a w := by
  have HZ := hide hZ
  clear hZ 
  refine fr_open5c (fun a => Code.wp Try.prog (stm Try.f5.body 18) Q a w) a hF ?_
  intro u2 u3 u4 u7 u9 u12 u16 u18 u19 u20 u21 u22 u23 u24 u25 u26 u27 u28 u29 u30 u31 u32 u33 u34 u35 u36 u37 u38 u39 u40 u41 u42 u43 u44 u45 u46 u47 u48 u49 u50 u51 u52 u53 u54 u55 u56 u57 u58 u59 u60 u61 u62 u63 u64 u65 u66 u67 u68 u69 u70 u71 u72 u73 u74 u75 u76 u77 u78 u79 u80 u81 u82 u83 u84 u85 u86 u87 u88 u89 u90 u91 u92 u93 u94 u95 u96 u97 u98 u99 u100 u101 u102 u103 u104 u105 u106 u107 u108 u109 u110 u111 u112 u113 u114 u115 u116 u117 u118 u119 u120 u121 u122 u123 u124 u125 u129 u130 u131 u132 u133 u134 u135 u136 u137 u138 u139 u140 u141 u142 u143 u144 u145 u146 u147 u148 u149 u150 u151 u152 u153 u154 u155 u156 u157 u158 u159 u160 u161 u162 u163 u164 u165 u166 u167 u168 u169 u170 u171 u172 u173 u174 u175 u176 u177 u178 u179 u180 u181 u182 u183 u184 u185 u186 u187 u188 u189 u190 u191 u192 u193 u194 u195 u196 u197 u198 u199 u200 u201 u202 u203 u204 u205 u206 u207 u208 u209 u210 u211 u212 u213 u214 u215 u216 u217 u218 u219 u220 u221 u222 u223 u224 u225 u226 u227 u228 u229 u230 u231 u232 u233 u234 u235 u236 u237 u238 u239 u240
  dsimp only
  conv => arg 2; whnf
  go_wp2_with fail
  exact unhide HZ _ ⟨rfl, rfl, rfl, rfl, rfl, rfl, rfl, rfl, rfl, rfl, rfl, rfl, rfl, rfl, rfl, rfl⟩

set_option maxHeartbeats 8000000 in
set_option maxRecDepth 100000 in
theorem lc32  (hrun : (Builtin.append_ #[22, 22] 22 #[.slice (some ⟨b13, 0, Option.none⟩) m13 n, .slice (some ⟨w.heap.size, 0, Option.none⟩) 1 1]).run Try.prog (w.alloc (.cells #[.int .i64 (s : Nat)] 3)) = .ok (.slice (some ⟨b13, 0, Option.none⟩) (m13 + 1) n) w')
    (hF : Fr5c a (.slice na n nc) (.slice oa n oc) (s5) (.int .i64 (n : Nat)) (.int .i64 (s : Nat)) (.slice ra n rc) (.slice (some ⟨b11, 0, Option.none⟩) n n) (.slice (some ⟨b13, 0, Option.none⟩) m13 n) (s14) (s15) (s17) (s126) (s127) (s128))
    (hZ : ∀ a', Fr5c a' (.slice na n nc) (.slice oa n oc) (s5) (.int .i64 (n : Nat)) (.int .i64 (s : Nat)) (.slice ra n rc) (.slice (some ⟨b11, 0, Option.none⟩) n n) (.slice (some ⟨b13, 0, Option.none⟩) (m13 + 1) n) (s14) (s15) (s17) (s126) (s127) (s128) → Q .normal a' w') :
    Code.wp Try.prog (stm Try.f5.body 19) Q a w := by
  have HZ := hide hZ
  clear hZ 
  refine fr_open5c (fun a => Code.wp Try.prog (stm Try.f5.body 19) Q a w) a hF ?_
  intro u2 u3 u4 u7 u9 u12 u16 u18 u19 u20 u21 u22 u23 u24 u25 u26 u27 u28 u29 u30 u31 u32 u33 u34 u35 u36 u37 u38 u39 u40 u41 u42 u43 u44 u45 u46 u47 u48 u49 u50 u51 u52 u53 u54 u55 u56 u57 u58 u59 u60 u61 u62 u63 u64 u65 u66 u67 u68 u69 u70 u71 u72 u73 u74 u75 u76 u77 u78 u79 u80 u81 u82 u83 u84 u85 u86 u87 u88 u89 u90 u91 u92 u93 u94 u95 u96 u97 u98 u99 u100 u101 u102 u103 u104 u105 u106 u107 u108 u109 u110 u111 u112 u113 u114 u115 u116 u117 u118 u119 u120 u121 u122 u123 u124 u125 u129 u130 u131 u132 u133 u134 u135 u136 u137 u138 u139 u140 u141 u142 u143 u144 u145 u146 u147 u148 u149 u150 u151 u152 u153 u154 u155 u156 u157 u158 u159 u160 u161 u162 u163 u164 u165 u166 u167 u168 u169 u170 u171 u172 u173 u174 u175 u176 u177 u178 u179 u180 u181 u182 u183 u184 u185 u186 u187 u188 u189 u190 u191 u192 u193 u194 u195 u196 u197 u198 u199 u200 u201 u202 u203 u204 u205 u206 u207 u208 u209 u210 u211 u212 u213 u214 u215 u216 u217 u218 u219 u220 u221 u222 u223 u224 u225 u226 u227 u228 u229 u230 u231 u232 u233 u234 u235 u236 u237 u238 u239 u240
  dsimp only
  conv => arg 2; whnf
  go_wp2_with (at_builtin; refine Lib.wpList_append_run _ rfl _ _ _ _ rfl _ _ rfl rfl _ _ hrun ?_)
  exact unhide HZ _ ⟨rfl, rfl, rfl, rfl, rfl, rfl, rfl, rfl, rfl, rfl, rfl, rfl, rfl, rfl, rfl, rfl⟩

set_option maxHeartbeats 8000000 in
set_option maxRecDepth 100000 in
theorem lc33 
    (hF : Fr5c a (.slice na n nc) (.slice oa n oc) (s5) (.int .i64 (n : Nat)) (.int .i64 (s : Nat)) (.slice ra n rc) (.slice (some ⟨b11, 0, Option.none⟩) n n) (.slice (some ⟨b13, 0, Option.none⟩) m13 n) (s14) (s15) (s17) (s126) (s127) (s128))
    (hZ : ∀ a', Fr5c a' (.slice na n nc) (.slice oa n oc) (s5) (.int .i64 (n : Nat)) (.int .i64 (s : Nat)) (.slice ra n rc) (.slice (some ⟨b11, 0, Option.none⟩) n n) (.slice (some ⟨b13, 0, Option.none⟩) m13 n) (.int .i64 0) (s15) (s17) (s126) (s127) (s128) → Q .normal a' w) :
    Code.wp Try.prog (headC (stm Try.f5.body 20)) Q a w := by
  have HZ := hide hZ
  clear hZ 
  refine fr_open5c (fun a => Code.wp Try.prog (headC (stm Try.f5.body 20)) Q a w) a hF ?_
  intro u2 u3 u4 u7 u9 u12 u16 u18 u19 u20 u21 u22 u23 u24 u25 u26 u27 u28 u29 u30 u31 u32 u33 u34 u35 u36 u37 u38 u39 u40 u41 u42 u43 u44 u45 u46 u47 u48 u49 u50 u51 u52 u53 u54 u55 u56 u57 u58 u59 u60 u61 u62 u63 u64 u65 u66 u67 u68 u69 u70 u71 u72 u73 u74 u75 u76 u77 u78 u79 u80 u81 u82 u83 u84 u85 u86 u87 u88 u89 u90 u91 u92 u93 u94 u95 u96 u97 u98 u99 u100 u101 u102 u103 u104 u105 u106 u107 u108 u109 u110 u111 u112 u113 u114 u115 u116 u117 u118 u119 u120 u121 u122 u123 u124 u125 u129 u130 u131 u132 u133 u134 u135 u136 u137 u138 u139 u140 u141 u142 u143 u144 u145 u146 u147 u148 u149 u150 u151 u152 u153 u154 u155 u156 u157 u158 u159 u160 u161 u162 u163 u164 u165 u166 u167 u168 u169 u170 u171 u172 u173 u174 u175 u176 u177 u178 u179 u180 u181 u182 u183 u184 u185 u186 u187 u188 u189 u190 u191 u192 u193 u194 u195 u196 u197 u198 u199 u200 u201 u202 u203 u204 u205 u206 u207 u208 u209 u210 u211 u212 u213 u214 u215 u216 u217 u218 u219 u220 u221 u222 u223 u224 u225 u226 u227 u228 u229 u230 u231 u232 u233 u234 u235 u236 u237 u238 u239 u240
  dsimp only
  conv => arg 2; whnf
  go_wp2_with fail
  exact unhide HZ _ ⟨rfl, rfl, rfl, rfl, rfl, rfl, rfl, rfl, rfl, rfl, rfl, rfl, rfl, rfl, rfl, rfl⟩

set_option maxHeartbeats 8000000 in
set_option maxRecDepth 100000 in
theorem lc34 
    (hF : Fr5c a (.slice na n nc) (.slice oa n oc) (s5) (.int .i64 (n : Nat)) (.int .i64 (s : Nat)) (.slice ra n rc) (.slice (some ⟨b11, 0, Option.none⟩) n n) (.slice (some ⟨b13, 0, Option.none⟩) m13 n) (.int .i64 (h : Nat)) (s15) (s17) (s126) (s127) (s128))
    (h1 : h < m13 → ∀ a', Fr5c a' (.slice na n nc) (.slice oa n oc) (s5) (.int .i64 (n : Nat)) (.int .i64 (s : Nat)) (.slice ra n rc) (.slice (some ⟨b11, 0, Option.none⟩) n n) (.slice (some ⟨b13, 0, Option.none⟩) m13 n) (.int .i64 (h : Nat)) (s15) (s17) (s126) (s127) (s128) → Q .normal a' w)
    (h2 : ¬ h < m13 → ∀ a', Fr5c a' (.slice na n nc) (.slice oa n oc) (s5) (.int .i64 (n : Nat)) (.int .i64 (s : Nat)) (.slice ra n rc) (.slice (some ⟨b11, 0, Option.none⟩) n n) (.slice (some ⟨b13, 0, Option.none⟩) m13 n) (.int .i64 (h : Nat)) (s15) (s17) (s126) (s127) (s128) → Q (.exit 4) a' w) :
    Code.wp Try.prog (headC (innerC (innerC (tailC (stm Try.f5.body 20))))) Q a w := by
  by_cases hc : h < m13
  · have HZ := hide (h1 hc)
    have t1 : (h : Int) < (m13 : Int) := by omega
    clear h1 h2 
    refine fr_open5c (fun a => Code.wp Try.prog (headC (innerC (innerC (tailC (stm Try.f5.body 20))))) Q a w) a hF ?_
    intro u2 u3 u4 u7 u9 u12 u16 u18 u19 u20 u21 u22 u23 u24 u25 u26 u27 u28 u29 u30 u31 u32 u33 u34 u35 u36 u37 u38 u39 u40 u41 u42 u43 u44 u45 u46 u47 u48 u49 u50 u51 u52 u53 u54 u55 u56 u57 u58 u59 u60 u61 u62 u63 u64 u65 u66 u67 u68 u69 u70 u71 u72 u73 u74 u75 u76 u77 u78 u79 u80 u81 u82 u83 u84 u85 u86 u87 u88 u89 u90 u91 u92 u93 u94 u95 u96 u97 u98 u99 u100 u101 u102 u103 u104 u105 u106 u107 u108 u109 u110 u111 u112 u113 u114 u115 u116 u117 u118 u119 u120 u121 u122 u123 u124 u125 u129 u130 u131 u132 u133 u134 u135 u136 u137 u138 u139 u140 u141 u142 u143 u144 u145 u146 u147 u148 u149 u150 u151 u152 u153 u154 u155 u156 u157 u158 u159 u160 u161 u162 u163 u164 u165 u166 u167 u168 u169 u170 u171 u172 u173 u174 u175 u176 u177 u178 u179 u180 u181 u182 u183 u184 u185 u186 u187 u188 u189 u190 u191 u192 u193 u194 u195 u196 u197 u198 u199 u200 u201 u202 u203 u204 u205 u206 u207 u208 u209 u210 u211 u212 u213 u214 u215 u216 u217 u218 u219 u220 u221 u222 u223 u224 u225 u226 u227 u228 u229 u230 u231 u232 u233 u234 u235 u236 u237 u238 u239 u240
    dsimp only
    conv => arg 2; whnf
    go_wp2_with fail
    exact unhide HZ _ ⟨rfl, rfl, rfl, rfl, rfl, rfl, rfl, rfl, rfl, rfl, rfl, rfl, rfl, rfl, rfl, rfl⟩
  · have HZ := hide (h2 hc)
    have t1 : ¬ (h : Int) < (m13 : Int) := by omega
    clear h1 h2 
    refine fr_open5c (fun a => Code.wp Try.prog (headC (innerC (innerC (tailC (stm Try.f5.body 20))))) Q a w) a hF ?_
    intro u2 u3 u4 u7 u9 u12 u16 u18 u19 u20 u21 u22 u23 u24 u25 u26 u27 u28 u29 u30 u31 u32 u33 u34 u35 u36 u37 u38 u39 u40 u41 u42 u43 u44 u45 u46 u47 u48 u49 u50 u51 u52 u53 u54 u55 u56 u57 u58 u59 u60 u61 u62 u63 u64 u65 u66 u67 u68 u69 u70 u71 u72 u73 u74 u75 u76 u77 u78 u79 u80 u81 u82 u83 u84 u85 u86 u87 u88 u89 u90 u91 u92 u93 u94 u95 u96 u97 u98 u99 u100 u101 u102 u103 u104 u105 u106 u107 u108 u109 u110 u111 u112 u113 u114 u115 u116 u117 u118 u119 u120 u121 u122 u123 u124 u125 u129 u130 u131 u132 u133 u134 u135 u136 u137 u138 u139 u140 u141 u142 u143 u144 u145 u146 u147 u148 u149 u150 u151 u152 u153 u154 u155 u156 u157 u158 u159 u160 u161 u162 u163 u164 u165 u166 u167 u168 u169 u170 u171 u172 u173 u174 u175 u176 u177 u178 u179 u180 u181 u182 u183 u184 u185 u186 u187 u188 u189 u190 u191 u192 u193 u194 u195 u196 u197 u198 u199 u200 u201 u202 u203 u204 u205 u206 u207 u208 u209 u210 u211 u212 u213 u214 u215 u216 u217 u218 u219 u220 u221 u222 u223 u224 u225 u226 u227 u228 u229 u230 u231 u232 u233 u234 u235 u236 u237 u238 u239 u240
    dsimp only
    conv => arg 2; whnf
    go_wp2_with fail
    exact unhide HZ _ ⟨rfl, rfl, rfl, rfl, rfl, rfl, rfl, rfl, rfl, rfl, rfl, rfl, rfl, rfl, rfl, rfl⟩

set_option maxHeartbeats 8000000 in
set_option maxRecDepth 100000 in
theorem lc36 (hh : h < m13) (d1 : w.cell? ⟨b13, h, Option.none⟩ = some (.int .i64 (v : Nat)))
    (hF : Fr5c a (.slice na n nc) (.slice oa n oc) (s5) (.int .i64 (n : Nat)) (.int .i64 (s : Nat)) (.slice ra n rc) (.slice (some ⟨b11, 0, Option.none⟩) n n) (.slice (some ⟨b13, 0, Option.none⟩) m13 n) (.int .i64 (h : Nat)) (s15) (s17) (s126) (s127) (s128))
    (hZ : ∀ a', Fr5c a' (.slice na n nc) (.slice oa n oc) (s5) (.int .i64 (n : Nat)) (.int .i64 (s : Nat)) (.slice ra n rc) (.slice (some ⟨b11, 0, Option.none⟩) n n) (.slice (some ⟨b13, 0, Option.none⟩) m13 n) (.int .i64 (h : Nat)) (.int .i64 (v : Nat)) (s17) (s126) (s127) (s128) → Q .normal a' w) :
    Code.wp Try.prog (headC (innerC (headC (tailC (innerC (innerC (tailC (stm Try.f5.body 20)))))))) Q a w := by
  have HZ := hide hZ
  have lh : (h : Int) < (m13 : Int) := by omega
  clear hZ 
  refine fr_open5c (fun a => Code.wp Try.prog (headC (innerC (headC (tailC (innerC (innerC (tailC (stm Try.f5.body 20)))))))) Q a w) a hF ?_
  intro u2 u3 u4 u7 u9 u12 u16 u18 u19 u20 u21 u22 u23 u24 u25 u26 u27 u28 u29 u30 u31 u32 u33 u34 u35 u36 u37 u38 u39 u40 u41 u42 u43 u44 u45 u46 u47 u48 u49 u50 u51 u52 u53 u54 u55 u56 u57 u58 u59 u60 u61 u62 u63 u64 u65 u66 u67 u68 u69 u70 u71 u72 u73 u74 u75 u76 u77 u78 u79 u80 u81 u82 u83 u84 u85 u86 u87 u88 u89 u90 u91 u92 u93 u94 u95 u96 u97 u98 u99 u100 u101 u102 u103 u104 u105 u106 u107 u108 u109 u110 u111 u112 u113 u114 u115 u116 u117 u118 u119 u120 u121 u122 u123 u124 u125 u129 u130 u131 u132 u133 u134 u135 u136 u137 u138 u139 u140 u141 u142 u143 u144 u145 u146 u147 u148 u149 u150 u151 u152 u153 u154 u155 u156 u157 u158 u159 u160 u161 u162 u163 u164 u165 u166 u167 u168 u169 u170 u171 u172 u173 u174 u175 u176 u177 u178 u179 u180 u181 u182 u183 u184 u185 u186 u187 u188 u189 u190 u191 u192 u193 u194 u195 u196 u197 u198 u199 u200 u201 u202 u203 u204 u205 u206 u207 u208 u209 u210 u211 u212 u213 u214 u215 u216 u217 u218 u219 u220 u221 u222 u223 u224 u225 u226 u227 u228 u229 u230 u231 u232 u233 u234 u235 u236 u237 u238 u239 u240
  dsimp only
  conv => arg 2; whnf
  go_wp2_with fail
  exact unhide HZ _ ⟨rfl, rfl, rfl, rfl, rfl, rfl, rfl, rfl, rfl, rfl, rfl, rfl, rfl, rfl, rfl, rfl⟩

set_option maxHeartbeats 8000000 in
set_option maxRecDepth 100000 in
theorem lc37 (hv : v < n) (hr : ∃ b off, ra = some ⟨b, off, Option.none⟩ ∧ w.cell? ⟨b, off + v, Option.none⟩ = some (.slice A N C))
    (hF : Fr5c a (.slice na n nc) (.slice oa n oc) (s5) (.int .i64 (n : Nat)) (.int .i64 (s : Nat)) (.slice ra n rc) (.slice (some ⟨b11, 0, Option.none⟩) n n) (.slice (some ⟨b13, 0, Option.none⟩) m13 n) (s14) (.int .i64 (v : Nat)) (s17) (s126) (s127) (s128))
    (hZ : ∀ a', Fr5c a' (.slice na n nc) (.slice oa n oc) (s5) (.int .i64 (n : Nat)) (.int .i64 (s : Nat)) (.slice ra n rc) (.slice (some ⟨b11, 0, Option.none⟩) n n) (.slice (some ⟨b13, 0, Option.none⟩) m13 n) (s14) (.int .i64 (v : Nat)) (s17) (.slice A N C) (.int .i64 (N : Nat)) (.int .i64 0) → Q .normal a' w) :
    Code.wp Try.prog (headC (tailC (innerC (headC (tailC (innerC (innerC (tailC (stm Try.f5.body 20))))))))) Q a w := by
  have HZ := hide hZ
  obtain ⟨b, off, rfl, hr⟩ := hr
  have lv : ((v : Nat) : Int) < (n : Int) := by omega
  clear hZ 
  refine fr_open5c (fun a => Code.wp Try.prog (headC (tailC (innerC (headC (tailC (innerC (innerC (tailC (stm Try.f5.body 20))))))))) Q a w) a hF ?_
  intro u2 u3 u4 u7 u9 u12 u16 u18 u19 u20 u21 u22 u23 u24 u25 u26 u27 u28 u29 u30 u31 u32 u33 u34 u35 u36 u37 u38 u39 u40 u41 u42 u43 u44 u45 u46 u47 u48 u49 u50 u51 u52 u53 u54 u55 u56 u57 u58 u59 u60 u61 u62 u63 u64 u65 u66 u67 u68 u69 u70 u71 u72 u73 u74 u75 u76 u77 u78 u79 u80 u81 u82 u83 u84 u85 u86 u87 u88 u89 u90 u91 u92 u93 u94 u95 u96 u97 u98 u99 u100 u101 u102 u103 u104 u105 u106 u107 u108 u109 u110 u111 u112 u113 u114 u115 u116 u117 u118 u119 u120 u121 u122 u123 u124 u125 u129 u130 u131 u132 u133 u134 u135 u136 u137 u138 u139 u140 u141 u142 u143 u144 u145 u146 u147 u148 u149 u150 u151 u152 u153 u154 u155 u156 u157 u158 u159 u160 u161 u162 u163 u164 u165 u166 u167 u168 u169 u170 u171 u172 u173 u174 u175 u176 u177 u178 u179 u180 u181 u182 u183 u184 u185 u186 u187 u188 u189 u190 u191 u192 u193 u194 u195 u196 u197 u198 u199 u200 u201 u202 u203 u204 u205 u206 u207 u208 u209 u210 u211 u212 u213 u214 u215 u216 u217 u218 u219 u220 u221 u222 u223 u224 u225 u226 u227 u228 u229 u230 u231 u232 u233 u234 u235 u236 u237 u238 u239 u240
  dsimp only
  conv => arg 2; whnf
  go_wp2_with fail
  exact unhide HZ _ ⟨rfl, rfl, rfl, rfl, rfl, rfl, rfl, rfl, rfl, rfl, rfl, rfl, rfl, rfl, rfl, rfl⟩

set_option maxHeartbeats 8000000 in
set_option maxRecDepth 100000 in
theorem lc38 (X : Code) 
    (hF : Fr5c a (.slice na n nc) (.slice oa n oc) (s5) (.int .i64 (n : Nat)) (.int .i64 (s : Nat)) (.slice ra n rc) (.slice (some ⟨b11, 0, Option.none⟩) n n) (.slice (some ⟨b13, 0, Option.none⟩) m13 n) (s14) (s15) (s17) (.slice A N C) (.int .i64 (N : Nat)) (.int .i64 (k : Nat)))
    (h1 : k < N → ∀ a', Fr5c a' (.slice na n nc) (.slice oa n oc) (s5) (.int .i64 (n : Nat)) (.int .i64 (s : Nat)) (.slice ra n rc) (.slice (some ⟨b11, 0, Option.none⟩) n n) (.slice (some ⟨b13, 0, Option.none⟩) m13 n) (s14) (s15) (s17) (.slice A N C) (.int .i64 (N : Nat)) (.int .i64 (k : Nat)) → Code.wp Try.prog X Q a' w)
    (h2 : ¬ k < N → ∀ a', Fr5c a' (.slice na n nc) (.slice oa n oc) (s5) (.int .i64 (n : Nat)) (.int .i64 (s : Nat)) (.slice ra n rc) (.slice (some ⟨b11, 0, Option.none⟩) n n) (.slice (some ⟨b13, 0, Option.none⟩) m13 n) (s14) (s15) (s17) (.slice A N C) (.int .i64 (N : Nat)) (.int .i64 (k : Nat)) → Q (.exit 6) a' w) :
    Code.wp Try.prog (.seq (headC (innerC (innerC (tailC (tailC (innerC (headC (tailC (innerC (innerC (tailC (stm Try.f5.body 20)))))))))))) (.seq (headC (tailC (innerC (innerC (tailC (tailC (innerC (headC (tailC (innerC (innerC (tailC (stm Try.f5.body 20))))))))))))) X)) Q a w := by
  by_cases hk : k < N
  · have HZ := hide (h1 hk)
    have lk : ((k : Nat) : Int) < ((N : Nat) : Int) := by omega
    clear h1 h2 hk
    refine fr_open5c (fun a => Code.wp Try.prog (.seq (headC (innerC (innerC (tailC (tailC (innerC (headC (tailC (innerC (innerC (tailC (stm Try.f5.body 20)))))))))))) (.seq (headC (tailC (innerC (innerC (tailC (tailC (innerC (headC (tailC (innerC (innerC (tailC (stm Try.f5.body 20))))))))))))) X)) Q a w) a hF ?_
    intro u2 u3 u4 u7 u9 u12 u16 u18 u19 u20 u21 u22 u23 u24 u25 u26 u27 u28 u29 u30 u31 u32 u33 u34 u35 u36 u37 u38 u39 u40 u41 u42 u43 u44 u45 u46 u47 u48 u49 u50 u51 u52 u53 u54 u55 u56 u57 u58 u59 u60 u61 u62 u63 u64 u65 u66 u67 u68 u69 u70 u71 u72 u73 u74 u75 u76 u77 u78 u79 u80 u81 u82 u83 u84 u85 u86 u87 u88 u89 u90 u91 u92 u93 u94 u95 u96 u97 u98 u99 u100 u101 u102 u103 u104 u105 u106 u107 u108 u109 u110 u111 u112 u113 u114 u115 u116 u117 u118 u119 u120 u121 u122 u123 u124 u125 u129 u130 u131 u132 u133 u134 u135 u136 u137 u138 u139 u140 u141 u142 u143 u144 u145 u146 u147 u148 u149 u150 u151 u152 u153 u154 u155 u156 u157 u158 u159 u160 u161 u162 u163 u164 u165 u166 u167 u168 u169 u170 u171 u172 u173 u174 u175 u176 u177 u178 u179 u180 u181 u182 u183 u184 u185 u186 u187 u188 u189 u190 u191 u192 u193 u194 u195 u196 u197 u198 u199 u200 u201 u202 u203 u204 u205 u206 u207 u208 u209 u210 u211 u212 u213 u214 u215 u216 u217 u218 u219 u220 u221 u222 u223 u224 u225 u226 u227 u228 u229 u230 u231 u232 u233 u234 u235 u236 u237 u238 u239 u240
    dsimp only
    conv => arg 2; arg 1; whnf
    conv => arg 2; arg 2; arg 1; whnf
    go_wp2_with fail
    exact unhide HZ _ ⟨rfl, rfl, rfl, rfl, rfl, rfl, rfl, rfl, rfl, rfl, rfl, rfl, rfl, rfl, rfl, rfl⟩
  · have HZ := hide (h2 hk)
    have lk : ¬ ((k : Nat) : Int) < ((N : Nat) : Int) := by omega
    clear h1 h2 hk
    refine fr_open5c (fun a => Code.wp Try.prog (.seq (headC (innerC (innerC (tailC (tailC (innerC (headC (tailC (innerC (innerC (tailC (stm Try.f5.body 20)))))))))))) (.seq (headC (tailC (innerC (innerC (tailC (tailC (innerC (headC (tailC (innerC (innerC (tailC (stm Try.f5.body 20))))))))))))) X)) Q a w) a hF ?_
    intro u2 u3 u4 u7 u9 u12 u16 u18 u19 u20 u21 u22 u23 u24 u25 u26 u27 u28 u29 u30 u31 u32 u33 u34 u35 u36 u37 u38 u39 u40 u41 u42 u43 u44 u45 u46 u47 u48 u49 u50 u51 u52 u53 u54 u55 u56 u57 u58 u59 u60 u61 u62 u63 u64 u65 u66 u67 u68 u69 u70 u71 u72 u73 u74 u75 u76 u77 u78 u79 u80 u81 u82 u83 u84 u85 u86 u87 u88 u89 u90 u91 u92 u93 u94 u95 u96 u97 u98 u99 u100 u101 u102 u103 u104 u105 u106 u107 u108 u109 u110 u111 u112 u113 u114 u115 u116 u117 u118 u119 u120 u121 u122 u123 u124 u125 u129 u130 u131 u132 u133 u134 u135 u136 u137 u138 u139 u140 u141 u142 u143 u144 u145 u146 u147 u148 u149 u150 u151 u152 u153 u154 u155 u156 u157 u158 u159 u160 u161 u162 u163 u164 u165 u166 u167 u168 u169 u170 u171 u172 u173 u174 u175 u176 u177 u178 u179 u180 u181 u182 u183 u184 u185 u186 u187 u188 u189 u190 u191 u192 u193 u194 u195 u196 u197 u198 u199 u200 u201 u202 u203 u204 u205 u206 u207 u208 u209 u210 u211 u212 u213 u214 u215 u216 u217 u218 u219 u220 u221 u222 u223 u224 u225 u226 u227 u228 u229 u230 u231 u232 u233 u234 u235 u236 u237 u238 u239 u240
    dsimp only
    conv => arg 2; arg 1; whnf
    conv => arg 2; arg 2; arg 1; whnf
    go_wp2_with fail
    exact unhide HZ _ ⟨rfl, rfl, rfl, rfl, rfl, rfl, rfl, rfl, rfl, rfl, rfl, rfl, rfl, rfl, rfl, rfl⟩

set_option maxHeartbeats 8000000 in
set_option maxRecDepth 100000 in
theorem lc39 (hk : k < N) (hg : ∃ b off, A = some ⟨b, off, Option.none⟩ ∧ w.cell? ⟨b, off + k, Option.none⟩ = some (.int .i64 (x : Nat)))
    (hF : Fr5c a (.slice na n nc) (.slice oa n oc) (s5) (.int .i64 (n : Nat)) (.int .i64 (s : Nat)) (.slice ra n rc) (.slice (some ⟨b11, 0, Option.none⟩) n n) (.slice (some ⟨b13, 0, Option.none⟩) m13 n) (s14) (s15) (s17) (.slice A N C) (.int .i64 (N : Nat)) (.int .i64 (k : Nat)))
    (hZ : ∀ a', Fr5c a' (.slice na n nc) (.slice oa n oc) (s5) (.int .i64 (n : Nat)) (.int .i64 (s : Nat)) (.slice ra n rc) (.slice (some ⟨b11, 0, Option.none⟩) n n) (.slice (some ⟨b13, 0, Option.none⟩) m13 n) (s14) (s15) (.int .i64 (x : Nat)) (.slice A N C) (.int .i64 (N : Nat)) (.int .i64 (k : Nat)) → Q .normal a' w) :
    Code.wp Try.prog (headC (innerC (headC (tailC (tailC (innerC (innerC (tailC (tailC (innerC (headC (tailC (innerC (innerC (tailC (stm Try.f5.body 20)))))))))))))))) Q a w := by
  have HZ := hide hZ
  obtain ⟨b, off, rfl, hg⟩ := hg
  have lk : (k : Int) < (N : Int) := by omega
  clear hZ 
  refine fr_open5c (fun a => Code.wp Try.prog (headC (innerC (headC (tailC (tailC (innerC (innerC (tailC (tailC (innerC (headC (tailC (innerC (innerC (tailC (stm Try.f5.body 20)))))))))))))))) Q a w) a hF ?_
  intro u2 u3 u4 u7 u9 u12 u16 u18 u19 u20 u21 u22 u23 u24 u25 u26 u27 u28 u29 u30 u31 u32 u33 u34 u35 u36 u37 u38 u39 u40 u41 u42 u43 u44 u45 u46 u47 u48 u49 u50 u51 u52 u53 u54 u55 u56 u57 u58 u59 u60 u61 u62 u63 u64 u65 u66 u67 u68 u69 u70 u71 u72 u73 u74 u75 u76 u77 u78 u79 u80 u81 u82 u83 u84 u85 u86 u87 u88 u89 u90 u91 u92 u93 u94 u95 u96 u97 u98 u99 u100 u101 u102 u103 u104 u105 u106 u107 u108 u109 u110 u111 u112 u113 u114 u115 u116 u117 u118 u119 u120 u121 u122 u123 u124 u125 u129 u130 u131 u132 u133 u134 u135 u136 u137 u138 u139 u140 u141 u142 u143 u144 u145 u146 u147 u148 u149 u150 u151 u152 u153 u154 u155 u156 u157 u158 u159 u160 u161 u162 u163 u164 u165 u166 u167 u168 u169 u170 u171 u172 u173 u174 u175 u176 u177 u178 u179 u180 u181 u182 u183 u184 u185 u186 u187 u188 u189 u190 u191 u192 u193 u194 u195 u196 u197 u198 u199 u200 u201 u202 u203 u204 u205 u206 u207 u208 u209 u210 u211 u212 u213 u214 u215 u216 u217 u218 u219 u220 u221 u222 u223 u224 u225 u226 u227 u228 u229 u230 u231 u232 u233 u234 u235 u236 u237 u238 u239 u240
  dsimp only
  conv => arg 2; whnf
  go_wp2_with fail
  exact unhide HZ _ ⟨rfl, rfl, rfl, rfl, rfl, rfl, rfl, rfl, rfl, rfl, rfl, rfl, rfl, rfl, rfl, rfl⟩

set_option maxHeartbeats 8000000 in
set_option maxRecDepth 100000 in
theorem lc40 (X Y : Code) (hx : x < n) (d1 : w.cell? ⟨b11, x, Option.none⟩ = some (.int .i64 p))
    (hF : Fr5c a (.slice na n nc) (.slice oa n oc) (s5) (.int .i64 (n : Nat)) (.int .i64 (s : Nat)) (.slice ra n rc) (.slice (some ⟨b11, 0, Option.none⟩) n n) (.slice (some ⟨b13, 0, Option.none⟩) m13 n) (s14) (s15) (.int .i64 (x : Nat)) (s126) (s127) (s128))
    (h1 : p < 0 → ∀ a', Fr5c a' (.slice na n nc) (.slice oa n oc) (s5) (.int .i64 (n : Nat)) (.int .i64 (s : Nat)) (.slice ra n rc) (.slice (some ⟨b11, 0, Option.none⟩) n n) (.slice (some ⟨b13, 0, Option.none⟩) m13 n) (s14) (s15) (.int .i64 (x : Nat)) (s126) (s127) (s128) → Code.wp Try.prog X Q a' w)
    (h2 : ¬ p < 0 → ∀ a', Fr5c a' (.slice na n nc) (.slice oa n oc) (s5) (.int .i64 (n : Nat)) (.int .i64 (s : Nat)) (.slice ra n rc) (.slice (some ⟨b11, 0, Option.none⟩) n n) (.slice (some ⟨b13, 0, Option.none⟩) m13 n) (s14) (s15) (.int .i64 (x : Nat)) (s126) (s127) (s128) → Code.wp Try.prog Y Q a' w) :
    Code.wp Try.prog (.seq (headC (tailC (innerC (headC (tailC (tailC (innerC (innerC (tailC (tailC (innerC (headC (tailC (innerC (innerC (tailC (stm Try.f5.body 20))))))))))))))))) (.cond (.tmp 136) X Y)) Q a w := by
  have lx : (x : Int) < (n : Int) := by omega
  by_cases hc : p < 0
  · have HZ := hide (h1 hc)
    have t1 : decide (p < 0) = true := decide_eq_true hc
    clear h1 h2 
    refine fr_open5c (fun a => Code.wp Try.prog (.seq (headC (tailC (innerC (headC (tailC (tailC (innerC (innerC (tailC (tailC (innerC (headC (tailC (innerC (innerC (tailC (stm Try.f5.body 20))))))))))))))))) (.cond (.tmp 136) X Y)) Q a w) a hF ?_
    intro u2 u3 u4 u7 u9 u12 u16 u18 u19 u20 u21 u22 u23 u24 u25 u26 u27 u28 u29 u30 u31 u32 u33 u34 u35 u36 u37 u38 u39 u40 u41 u42 u43 u44 u45 u46 u47 u48 u49 u50 u51 u52 u53 u54 u55 u56 u57 u58 u59 u60 u61 u62 u63 u64 u65 u66 u67 u68 u69 u70 u71 u72 u73 u74 u75 u76 u77 u78 u79 u80 u81 u82 u83 u84 u85 u86 u87 u88 u89 u90 u91 u92 u93 u94 u95 u96 u97 u98 u99 u100 u101 u102 u103 u104 u105 u106 u107 u108 u109 u110 u111 u112 u113 u114 u115 u116 u117 u118 u119 u120 u121 u122 u123 u124 u125 u129 u130 u131 u132 u133 u134 u135 u136 u137 u138 u139 u140 u141 u142 u143 u144 u145 u146 u147 u148 u149 u150 u151 u152 u153 u154 u155 u156 u157 u158 u159 u160 u161 u162 u163 u164 u165 u166 u167 u168 u169 u170 u171 u172 u173 u174 u175 u176 u177 u178 u179 u180 u181 u182 u183 u184 u185 u186 u187 u188 u189 u190 u191 u192 u193 u194 u195 u196 u197 u198 u199 u200 u201 u202 u203 u204 u205 u206 u207 u208 u209 u210 u211 u212 u213 u214 u215 u216 u217 u218 u219 u220 u221 u222 u223 u224 u225 u226 u227 u228 u229 u230 u231 u232 u233 u234 u235 u236 u237 u238 u239 u240
    dsimp only
    conv => arg 2; arg 1; whnf
    go_wp2_with fail
    exact unhide HZ _ ⟨rfl, rfl, rfl, rfl, rfl, rfl, rfl, rfl, rfl, rfl, rfl, rfl, rfl, rfl, rfl, rfl⟩
  · have HZ := hide (h2 hc)
    have t1 : decide (p < 0) = false := decide_eq_false hc
    clear h1 h2 
    refine fr_open5c (fun a => Code.wp Try.prog (.seq (headC (tailC (innerC (headC (tailC (tailC (innerC (innerC (tailC (tailC (innerC (headC (tailC (innerC (innerC (tailC (stm Try.f5.body 20))))))))))))))))) (.cond (.tmp 136) X Y)) Q a w) a hF ?_
    intro u2 u3 u4 u7 u9 u12 u16 u18 u19 u20 u21 u22 u23 u24 u25 u26 u27 u28 u29 u30 u31 u32 u33 u34 u35 u36 u37 u38 u39 u40 u41 u42 u43 u44 u45 u46 u47 u48 u49 u50 u51 u52 u53 u54 u55 u56 u57 u58 u59 u60 u61 u62 u63 u64 u65 u66 u67 u68 u69 u70 u71 u72 u73 u74 u75 u76 u77 u78 u79 u80 u81 u82 u83 u84 u85 u86 u87 u88 u89 u90 u91 u92 u93 u94 u95 u96 u97 u98 u99 u100 u101 u102 u103 u104 u105 u106 u107 u108 u109 u110 u111 u112 u113 u114 u115 u116 u117 u118 u119 u120 u121 u122 u123 u124 u125 u129 u130 u131 u132 u133 u134 u135 u136 u137 u138 u139 u140 u141 u142 u143 u144 u145 u146 u147 u148 u149 u150 u151 u152 u153 u154 u155 u156 u157 u158 u159 u160 u161 u162 u163 u164 u165 u166 u167 u168 u169 u170 u171 u172 u173 u174 u175 u176 u177 u178 u179 u180 u181 u182 u183 u184 u185 u186 u187 u188 u189 u190 u191 u192 u193 u194 u195 u196 u197 u198 u199 u200 u201 u202 u203 u204 u205 u206 u207 u208 u209 u210 u211 u212 u213 u214 u215 u216 u217 u218 u219 u220 u221 u222 u223 u224 u225 u226 u227 u228 u229 u230 u231 u232 u233 u234 u235 u236 u237 u238 u239 u240
    dsimp only
    conv => arg 2; arg 1; whnf
    go_wp2_with fail
    exact unhide HZ _ ⟨rfl, rfl, rfl, rfl, rfl, rfl, rfl, rfl, rfl, rfl, rfl, rfl, rfl, rfl, rfl, rfl⟩

set_option maxHeartbeats 8000000 in
set_option maxRecDepth 100000 in
theorem lc41 (hx : x < n) (hv : v < n) (hp0 : 0 ≤ p) (hp1 : p ≤ 65536) (d2 : w.cell? ⟨b11, v, Option.none⟩ = some (.int .i64 p)) (d1 : (w.cell? ⟨b11, x, Option.none⟩).isSome = true) (f1 : w.frozen? ⟨b11, x, Option.none⟩ = false)
    (hF : Fr5c a (.slice na n nc) (.slice oa n oc) (s5) (.int .i64 (n : Nat)) (.int .i64 (s : Nat)) (.slice ra n rc) (.slice (some ⟨b11, 0, Option.none⟩) n n) (.slice (some ⟨b13, 0, Option.none⟩) m13 n) (s14) (.int .i64 (v : Nat)) (.int .i64 (x : Nat)) (s126) (s127) (s128))
    (hZ : ∀ a', Fr5c a' (.slice na n nc) (.slice oa n oc) (s5) (.int .i64 (n : Nat)) (.int .i64 (s : Nat)) (.slice ra n rc) (.slice (some ⟨b11, 0, Option.none⟩) n n) (.slice (some ⟨b13, 0, Option.none⟩) m13 n) (s14) (.int .i64 (v : Nat)) (.int .i64 (x : Nat)) (s126) (s127) (s128) → Q .normal a' (w.setCell ⟨b11, x, Option.none⟩ (.int .i64 (p + 1)))) :
    Code.wp Try.prog (headC (condT (tailC (tailC (innerC (headC (tailC (tailC (innerC (innerC (tailC (tailC (innerC (headC (tailC (innerC (innerC (tailC (stm Try.f5.body 20))))))))))))))))))) Q a w := by
  have HZ := hide hZ
  obtain ⟨d, d1⟩ := Option.isSome_iff_exists.1 d1
  have lx : (x : Int) < (n : Int) := by omega
  have lv : (v : Int) < (n : Int) := by omega
  clear hZ 
  refine fr_open5c (fun a => Code.wp Try.prog (headC (condT (tailC (tailC (innerC (headC (tailC (tailC (innerC (innerC (tailC (tailC (innerC (headC (tailC (innerC (innerC (tailC (stm Try.f5.body 20))))))))))))))))))) Q a w) a hF ?_
  intro u2 u3 u4 u7 u9 u12 u16 u18 u19 u20 u21 u22 u23 u24 u25 u26 u27 u28 u29 u30 u31 u32 u33 u34 u35 u36 u37 u38 u39 u40 u41 u42 u43 u44 u45 u46 u47 u48 u49 u50 u51 u52 u53 u54 u55 u56 u57 u58 u59 u60 u61 u62 u63 u64 u65 u66 u67 u68 u69 u70 u71 u72 u73 u74 u75 u76 u77 u78 u79 u80 u81 u82 u83 u84 u85 u86 u87 u88 u89 u90 u91 u92 u93 u94 u95 u96 u97 u98 u99 u100 u101 u102 u103 u104 u105 u106 u107 u108 u109 u110 u111 u112 u113 u114 u115 u116 u117 u118 u119 u120 u121 u122 u123 u124 u125 u129 u130 u131 u132 u133 u134 u135 u136 u137 u138 u139 u140 u141 u142 u143 u144 u145 u146 u147 u148 u149 u150 u151 u152 u153 u154 u155 u156 u157 u158 u159 u160 u161 u162 u163 u164 u165 u166 u167 u168 u169 u170 u171 u172 u173 u174 u175 u176 u177 u178 u179 u180 u181 u182 u183 u184 u185 u186 u187 u188 u189 u190 u191 u192 u193 u194 u195 u196 u197 u198 u199 u200 u201 u202 u203 u204 u205 u206 u207 u208 u209 u210 u211 u212 u213 u214 u215 u216 u217 u218 u219 u220 u221 u222 u223 u224 u225 u226 u227 u228 u229 u230 u231 u232 u233 u234 u235 u236 u237 u238 u239 u240
  dsimp only
  conv => arg 2; whnf
  go_wp2_with fail
  exact unhide HZ _ ⟨rfl, rfl, rfl, rfl, rfl, rfl, rfl, rfl, rfl, rfl, rfl, rfl, rfl, rfl, rfl, rfl⟩

set_option maxHeartbeats 8000000 in
set_option maxRecDepth 100000 in
theorem lc42  (hrun : (Builtin.append_ #[22, 22] 22 #[.slice (some ⟨b13, 0, Option.none⟩) m13 n, .slice (some ⟨w.heap.size, 0, Option.none⟩) 1 1]).run Try.prog (w.alloc (.cells #[.int .i64 (x : Nat)] 3)) = .ok (.slice (some ⟨b13, 0, Option.none⟩) (m13 + 1) n) w')
    (hF : Fr5c a (.slice na n nc) (.slice oa n oc) (s5) (.int .i64 (n : Nat)) (.int .i64 (s : Nat)) (.slice ra n rc) (.slice (some ⟨b11, 0, Option.none⟩) n n) (.slice (some ⟨b13, 0, Option.none⟩) m13 n) (s14) (s15) (.int .i64 (x : Nat)) (s126) (s127) (s128))
    (hZ : ∀ a', Fr5c a' (.slice na n nc) (.slice oa n oc) (s5) (.int .i64 (n : Nat)) (.int .i64 (s : Nat)) (.slice ra n rc) (.slice (some ⟨b11, 0, Option.none⟩) n n) (.slice (some ⟨b13, 0, Option.none⟩) (m13 + 1) n) (s14) (s15) (.int .i64 (x : Nat)) (s126) (s127) (s128) → Q .normal a' w') :
    Code.wp Try.prog (tailC (condT (tailC (tailC (innerC (headC (tailC (tailC (innerC (innerC (tailC (tailC (innerC (headC (tailC (innerC (innerC (tailC (stm Try.f5.body 20))))))))))))))))))) Q a w := by
  have HZ := hide hZ
  clear hZ 
  refine fr_open5c (fun a => Code.wp Try.prog (tailC (condT (tailC (tailC (innerC (headC (tailC (tailC (innerC (innerC (tailC (tailC (innerC (headC (tailC (innerC (innerC (tailC (stm Try.f5.body 20))))))))))))))))))) Q a w) a hF ?_
  intro u2 u3 u4 u7 u9 u12 u16 u18 u19 u20 u21 u22 u23 u24 u25 u26 u27 u28 u29 u30 u31 u32 u33 u34 u35 u36 u37 u38 u39 u40 u41 u42 u43 u44 u45 u46 u47 u48 u49 u50 u51 u52 u53 u54 u55 u56 u57 u58 u59 u60 u61 u62 u63 u64 u65 u66 u67 u68 u69 u70 u71 u72 u73 u74 u75 u76 u77 u78 u79 u80 u81 u82 u83 u84 u85 u86 u87 u88 u89 u90 u91 u92 u93 u94 u95 u96 u97 u98 u99 u100 u101 u102 u103 u104 u105 u106 u107 u108 u109 u110 u111 u112 u113 u114 u115 u116 u117 u118 u119 u120 u121 u122 u123 u124 u125 u129 u130 u131 u132 u133 u134 u135 u136 u137 u138 u139 u140 u141 u142 u143 u144 u145 u146 u147 u148 u149 u150 u151 u152 u153 u154 u155 u156 u157 u158 u159 u160 u161 u162 u163 u164 u165 u166 u167 u168 u169 u170 u171 u172 u173 u174 u175 u176 u177 u178 u179 u180 u181 u182 u183 u184 u185 u186 u187 u188 u189 u190 u191 u192 u193 u194 u195 u196 u197 u198 u199 u200 u201 u202 u203 u204 u205 u206 u207 u208 u209 u210 u211 u212 u213 u214 u215 u216 u217 u218 u219 u220 u221 u222 u223 u224 u225 u226 u227 u228 u229 u230 u231 u232 u233 u234 u235 u236 u237 u238 u239 u240
  dsimp only
  conv => arg 2; whnf
  go_wp2_with (at_builtin; refine Lib.wpList_append_run _ rfl _ _ _ _ rfl _ _ rfl rfl _ _ hrun ?_)
  exact unhide HZ _ ⟨rfl, rfl, rfl, rfl, rfl, rfl, rfl, rfl, rfl, rfl, rfl, rfl, rfl, rfl, rfl, rfl⟩

set_option maxHeartbeats 8000000 in
set_option maxRecDepth 100000 in
theorem lc43 (hk : k < N) (hN : N ≤ 1099511627776)
    (hF : Fr5c a (.slice na n nc) (.slice oa n oc) (s5) (.int .i64 (n : Nat)) (.int .i64 (s : Nat)) (.slice ra n rc) (.slice (some ⟨b11, 0, Option.none⟩) n n) (.slice (some ⟨b13, 0, Option.none⟩) m13 n) (s14) (s15) (s17) (.slice A N C) (.int .i64 (N : Nat)) (.int .i64 (k : Nat)))
    (hZ : ∀ a', Fr5c a' (.slice na n nc) (.slice oa n oc) (s5) (.int .i64 (n : Nat)) (.int .i64 (s : Nat)) (.slice ra n rc) (.slice (some ⟨b11, 0, Option.none⟩) n n) (.slice (some ⟨b13, 0, Option.none⟩) m13 n) (s14) (s15) (s17) (.slice A N C) (.int .i64 (N : Nat)) (.int .i64 ((k + 1 : Nat) : Int)) → Q .normal a' w) :
    Code.wp Try.prog (tailC (tailC (tailC (innerC (innerC (tailC (tailC (innerC (headC (tailC (innerC (innerC (tailC (stm Try.f5.body 20)))))))))))))) Q a w := by
  have HZ := hide hZ
  clear hZ 
  refine fr_open5c (fun a => Code.wp Try.prog (tailC (tailC (tailC (innerC (innerC (tailC (tailC (innerC (headC (tailC (innerC (innerC (tailC (stm Try.f5.body 20)))))))))))))) Q a w) a hF ?_
  intro u2 u3 u4 u7 u9 u12 u16 u18 u19 u20 u21 u22 u23 u24 u25 u26 u27 u28 u29 u30 u31 u32 u33 u34 u35 u36 u37 u38 u39 u40 u41 u42 u43 u44 u45 u46 u47 u48 u49 u50 u51 u52 u53 u54 u55 u56 u57 u58 u59 u60 u61 u62 u63 u64 u65 u66 u67 u68 u69 u70 u71 u72 u73 u74 u75 u76 u77 u78 u79 u80 u81 u82 u83 u84 u85 u86 u87 u88 u89 u90 u91 u92 u93 u94 u95 u96 u97 u98 u99 u100 u101 u102 u103 u104 u105 u106 u107 u108 u109 u110 u111 u112 u113 u114 u115 u116 u117 u118 u119 u120 u121 u122 u123 u124 u125 u129 u130 u131 u132 u133 u134 u135 u136 u137 u138 u139 u140 u141 u142 u143 u144 u145 u146 u147 u148 u149 u150 u151 u152 u153 u154 u155 u156 u157 u158 u159 u160 u161 u162 u163 u164 u165 u166 u167 u168 u169 u170 u171 u172 u173 u174 u175 u176 u177 u178 u179 u180 u181 u182 u183 u184 u185 u186 u187 u188 u189 u190 u191 u192 u193 u194 u195 u196 u197 u198 u199 u200 u201 u202 u203 u204 u205 u206 u207 u208 u209 u210 u211 u212 u213 u214 u215 u216 u217 u218 u219 u220 u221 u222 u223 u224 u225 u226 u227 u228 u229 u230 u231 u232 u233 u234 u235 u236 u237 u238 u239 u240
  dsimp only
  conv => arg 2; whnf
  go_wp2_with fail
  exact unhide HZ _ ⟨rfl, rfl, rfl, rfl, rfl, rfl, rfl, rfl, rfl, rfl, rfl, rfl, rfl, rfl, rfl, rfl⟩

set_option maxHeartbeats 8000000 in
set_option maxRecDepth 100000 in
theorem lc35 (hh : h ≤ 65536)
    (hF : Fr5c a (.slice na n nc) (.slice oa n oc) (s5) (.int .i64 (n : Nat)) (.int .i64 (s : Nat)) (.slice ra n rc) (.slice (some ⟨b11, 0, Option.none⟩) n n) (.slice (some ⟨b13, 0, Option.none⟩) m13 n) (.int .i64 (h : Nat)) (s15) (s17) (s126) (s127) (s128))
    (hZ : ∀ a', Fr5c a' (.slice na n nc) (.slice oa n oc) (s5) (.int .i64 (n : Nat)) (.int .i64 (s : Nat)) (.slice ra n rc) (.slice (some ⟨b11, 0, Option.none⟩) n n) (.slice (some ⟨b13, 0, Option.none⟩) m13 n) (.int .i64 ((h + 1 : Nat) : Int)) (s15) (s17) (s126) (s127) (s128) → Q .normal a' w) :
    Code.wp Try.prog (tailC (tailC (innerC (innerC (tailC (stm Try.f5.body 20)))))) Q a w := by
  have HZ := hide hZ
  clear hZ 
  refine fr_open5c (fun a => Code.wp Try.prog (tailC (tailC (innerC (innerC (tailC (stm Try.f5.body 20)))))) Q a w) a hF ?_
  intro u2 u3 u4 u7 u9 u12 u16 u18 u19 u20 u21 u22 u23 u24 u25 u26 u27 u28 u29 u30 u31 u32 u33 u34 u35 u36 u37 u38 u39 u40 u41 u42 u43 u44 u45 u46 u47 u48 u49 u50 u51 u52 u53 u54 u55 u56 u57 u58 u59 u60 u61 u62 u63 u64 u65 u66 u67 u68 u69 u70 u71 u72 u73 u74 u75 u76 u77 u78 u79 u80 u81 u82 u83 u84 u85 u86 u87 u88 u89 u90 u91 u92 u93 u94 u95 u96 u97 u98 u99 u100 u101 u102 u103 u104 u105 u106 u107 u108 u109 u110 u111 u112 u113 u114 u115 u116 u117 u118 u119 u120 u121 u122 u123 u124 u125 u129 u130 u131 u132 u133 u134 u135 u136 u137 u138 u139 u140 u141 u142 u143 u144 u145 u146 u147 u148 u149 u150 u151 u152 u153 u154 u155 u156 u157 u158 u159 u160 u161 u162 u163 u164 u165 u166 u167 u168 u169 u170 u171 u172 u173 u174 u175 u176 u177 u178 u179 u180 u181 u182 u183 u184 u185 u186 u187 u188 u189 u190 u191 u192 u193 u194 u195 u196 u197 u198 u199 u200 u201 u202 u203 u204 u205 u206 u207 u208 u209 u210 u211 u212 u213 u214 u215 u216 u217 u218 u219 u220 u221 u222 u223 u224 u225 u226 u227 u228 u229 u230 u231 u232 u233 u234 u235 u236 u237 u238 u239 u240
  dsimp only
  conv => arg 2; whnf
  go_wp2_with fail
  exact unhide HZ _ ⟨rfl, rfl, rfl, rfl, rfl, rfl, rfl, rfl, rfl, rfl, rfl, rfl, rfl, rfl, rfl, rfl⟩

end Go.Proofs.Qxb6602460a
