import Derived.Test.Qxb6002590aFiveA
namespace Go.Proofs.Qxb6002590a
open Go.RowKit Go.Own

/-- What 'ZZServe' has left. -/
def Answer (n kn q : Nat) (S : Nat → Sp) (κ : Nat → Nat) (m : Nat) (w : World) (L U : Option Addr) (ok : Bool) (v : Value) : Prop :=
  (unOf S κ kn (min (q + 1) kn) n ≠ [] ∧ L = Option.none ∧ U = Option.none ∧ ok = false ∧ OwnI w m v (unOf S κ kn (min (q + 1) kn) n)) ∨
  (unOf S κ kn (min (q + 1) kn) n = [] ∧ v = .slice Option.none 0 0 ∧ Served (pfxOf S κ q).isEmpty (pfxOf S κ q) (nextOf S κ kn q) m w L U ok)

theorem Answer.below {n kn q : Nat} {S : Nat → Sp} {κ : Nat → Nat} {m : Nat} {w w' : World} {L U : Option Addr} {ok : Bool} {v : Value} (h : Answer n kn q S κ m w L U ok v) (hb : Below w.heap.size w w') : Answer n kn q S κ m w' L U ok v := by
  rcases h with ⟨h1, h2, h3, h4, h5⟩ | ⟨h1, h2, h3⟩
  · refine .inl ⟨h1, h2, h3, h4, World.ownsRow.kept h5 (row := Option.none) ⟨hb.os, hb.tape, hb.output, hb.size, fun k hk _ => hb.block k hk⟩ ?_⟩
    cases hv : v.ownBlock <;> simp
  · refine .inr ⟨h1, h2, ?_⟩
    rcases h3 with h | ⟨low, g1, g2, g3, g4⟩
    · exact .inl h
    · exact .inr ⟨low, g1, g2, g3.below hb, g4.below hb⟩

theorem IsEq.uniq {S : Nat → Sp} {κ : Nat → Nat} {kn q q' : Nat} (h : IsEq S κ kn q) (h' : IsEq S κ kn q') : q = q' := by
  rcases Nat.lt_trichotomy q q' with hl | he | hg
  · have h1 := h'.2.1 q hl
    rw [h.2.2 (Nat.lt_of_lt_of_le hl h'.1)] at h1
    cases h1
  · exact he
  · have h1 := h.2.1 q' hg
    rw [h'.2.2 (Nat.lt_of_lt_of_le hg h.1)] at h1
    cases h1

set_option maxHeartbeats 8000000 in
set_option maxRecDepth 100000 in
theorem five8 (a0 a1 a2 a3 a4 a5 a6 : Option Addr) (n kn c0 c1 c2 c3 c4 c5 c6 : Nat) (A0 A1 : Nat → Option Addr) (C0 C1 : Nat → Nat) (L0 L1 : Nat → List Int) (B2 B3 B4 : Nat → Bool) (κ : Nat → Nat) (kk : List Int) (w : World) (Q : Exit → Act → World → Prop) (Z : Code) (a : Act) (q : Nat) (s14 s16 s20 s22 s23 s24 s25 s26 s30 s35 s36 s37 s38 : Value)
    (hI : In5 w a0 a1 a2 a3 a4 a5 a6 n n n n n kn c0 c1 c2 c3 c4 c5 c6 A0 A1 C0 C1 L0 L1 B2 B3 B4 (fun j => ((κ j : Nat) : Int)) kk) (hn : n ≤ 4096) (hkn : kn ≤ 4096) (hκ : ∀ q, q < kn → κ q < n) (hl : ∀ i, i < n → (L0 i).length ≤ 1048576 ∧ (L1 i).length ≤ 1048576) (hq : IsEq (fun i => ⟨A0 i, C0 i, L0 i, A1 i, C1 i, L1 i, B2 i, B3 i, B4 i⟩ : Nat → Sp) κ kn q) (hpl : (pfxOf (fun i => ⟨A0 i, C0 i, L0 i, A1 i, C1 i, L1 i, B2 i, B3 i, B4 i⟩ : Nat → Sp) κ q).length ≤ 1048576)
    (hF : Fr5 a (.slice a0 n c0) (.slice a1 n c1) (.slice a2 n c2) (.slice a3 n c3) (.slice a4 n c4) (.slice a5 kn c5) (.slice a6 kk.length c6) (s14) (.int .i64 (n : Nat)) (s16) (.int .i64 (q : Nat)) (s20) (s22) (s23) (s24) (s25) (s26) (s30) (s35) (s36) (s37) (s38))
    (hZ : ∀ a' w' L U ok v, Below w.heap.size w w' → Answer n kn q (fun i => ⟨A0 i, C0 i, L0 i, A1 i, C1 i, L1 i, B2 i, B3 i, B4 i⟩ : Nat → Sp) κ w.heap.size w' L U ok v → ∀ rb, RngAt w' rb L U → Fr5 a' (.slice a0 n c0) (.slice a1 n c1) (.slice a2 n c2) (.slice a3 n c3) (.slice a4 n c4) (.slice a5 kn c5) (.slice a6 kk.length c6) (s14) (.int .i64 (n : Nat)) (s16) (.int .i64 (q : Nat)) (s20) (.pointer (some ⟨rb, 0, Option.none⟩)) (.bool ok) (v) (s25) (s26) (s30) (s35) (s36) (s37) (s38) → Code.wp Try.prog Z Q a' w') :
    Code.wp Try.prog (.seq (stm Try.f5.body 20) Z) Q a w := by
  have HZ := hide hZ
  have hC : Cols w n (fun i => ⟨A0 i, C0 i, L0 i, A1 i, C1 i, L1 i, B2 i, B3 i, B4 i⟩ : Nat → Sp) a0 a1 a2 a3 a4 c0 c1 c2 c3 c4 := ⟨hI.h0, hI.h1, hI.h2, hI.h3, hI.h4, fun i hi => ⟨(hI.r0 i hi).1, (hI.r1 i hi).1, (hI.r0 i hi).2, (hI.r1 i hi).2⟩, hl⟩
  have hsv := zserve21 n kn c5 (fun i => ⟨A0 i, C0 i, L0 i, A1 i, C1 i, L1 i, B2 i, B3 i, B4 i⟩ : Nat → Sp) κ a0 a1 a2 a3 a4 a5 c0 c1 c2 c3 c4 w hC hI.h5 hκ (by omega) (by omega) (fun q' hq' => by rw [← hq.uniq hq']; exact hpl)
  generalize (fun i => ⟨A0 i, C0 i, L0 i, A1 i, C1 i, L1 i, B2 i, B3 i, B4 i⟩ : Nat → Sp) = S at hsv hq HZ
  clear hZ hC hpl hI hκ hl
  refine fr_open5 (fun a => Code.wp Try.prog (.seq (stm Try.f5.body 20) Z) Q a w) a hF ?_
  intro u7 u8 u9 u10 u11 u12 u13 u17 u18 u21 u27 u28 u29 u31 u32 u33 u34 u39 u40 u41 u42 u43 u44 u45 u46 u47 u48 u49 u50 u51 u52 u53 u54 u55 u56 u57 u58 u59 u60 u61 u62 u63 u64 u65 u66 u67 u68 u69 u70 u71 u72 u73 u74 u75 u76 u77 u78 u79 u80 u81 u82 u83 u84 u85 u86 u87 u88 u89 u90 u91 u92 u93 u94 u95 u96 u97 u98 u99 u100 u101 u102 u103 u104 u105 u106 u107 u108 u109 u110 u111 u112 u113 u114 u115 u116 u117 u118 u119 u120 u121 u122 u123 u124 u125 u126 u127 u128 u129 u130 u131 u132 u133 u134 u135 u136 u137 u138 u139 u140 u141 u142 u143 u144 u145 u146 u147 u148 u149 u150 u151 u152 u153 u154 u155 u156 u157 u158 u159 u160 u161 u162 u163 u164 u165 u166 u167 u168 u169 u170 u171 u172 u173 u174 u175 u176 u177 u178 u179 u180 u181 u182 u183 u184 u185 u186 u187 u188 u189 u190 u191 u192 u193 u194 u195 u196 u197 u198 u199 u200 u201 u202 u203 u204 u205 u206 u207 u208 u209 u210 u211 u212 u213 u214 u215 u216 u217 u218 u219 u220 u221 u222 u223 u224 u225 u226 u227 u228 u229 u230 u231 u232 u233 u234 u235 u236 u237 u238 u239 u240 u241 u242 u243 u244 u245 u246 u247 u248 u249 u250 u251 u252 u253 u254 u255 u256 u257 u258 u259 u260 u261 u262 u263 u264 u265 u266 u267 u268 u269 u270 u271 u272 u273 u274 u275 u276 u277 u278 u279 u280 u281 u282 u283 u284 u285 u286 u287 u288 u289 u290 u291 u292 u293 u294 u295 u296 u297 u298 u299 u300 u301 u302 u303 u304 u305 u306 u307 u308 u309 u310 u311 u312 u313 u314 u315 u316 u317 u318 u319 u320 u321 u322 u323 u324 u325 u326 u327 u328 u329 u330 u331 u332 u333 u334 u335 u336 u337 u338 u339 u340 u341 u342 u343 u344 u345 u346 u347 u348 u349 u350 u351 u352 u353 u354 u355 u356 u357 u358 u359 u360 u361 u362 u363 u364 u365 u366 u367 u368 u369 u370 u371 u372 u373 u374 u375 u376 u377 u378 u379 u380 u381 u382 u383 u384 u385 u386 u387 u388 u389 u390 u391 u392 u393 u394 u395 u396
  dsimp only
  conv => arg 2; arg 1; whnf
  go_wp2_with fail
  refine hsv.mono ?_
  intro e w1 hpost
  obtain ⟨L, U, ok, v, rfl⟩ := hpost.form
  have hA : Answer n kn q S κ w.heap.size w1 L U ok v := by
    obtain ⟨-, q', hq', ⟨h1, v', h2, h3⟩ | ⟨h1, L', U', ok', h2, h3⟩⟩ := hpost
    · rw [← hq.uniq hq'] at h1 h3
      simp only [Ending.returned.injEq, Value.tuple.injEq, Array.mk.injEq, List.cons.injEq, Value.agg.injEq, Value.pointer.injEq, Value.bool.injEq, and_true] at h2
      obtain ⟨⟨rfl, rfl⟩, rfl, rfl⟩ := h2
      exact .inl ⟨h1, rfl, rfl, rfl, h3⟩
    · rw [← hq.uniq hq'] at h1 h3
      simp only [Ending.returned.injEq, Value.tuple.injEq, Array.mk.injEq, List.cons.injEq, Value.agg.injEq, Value.pointer.injEq, Value.bool.injEq, and_true] at h2
      obtain ⟨⟨rfl, rfl⟩, rfl, rfl⟩ := h2
      exact .inr ⟨h1, rfl, h3⟩
  have hb1 := hpost.1
  have hb2 : Below w1.heap.size w1 (w1.alloc (.cells #[.pointer L, .pointer U, .bool false, .int .i64 0] 27)) := (Below.refl _ _).alloc (Nat.le_refl _) _
  have hr : RngAt (w1.alloc (.cells #[.pointer L, .pointer U, .bool false, .int .i64 0] 27)) w1.heap.size L U := World.rowIs_alloc w1 _ 27 _ fun i hi => by
    have : i = 0 ∨ i = 1 ∨ i = 2 ∨ i = 3 := by simp at hi; omega
    rcases this with rfl | rfl | rfl | rfl <;> rfl
  have HA := hide (hA.below hb2)
  clear hsv hpost hA hq
  go_wp2_with fail
  exact unhide HZ _ _ L U ok v (below_step hb1 hb2) (unhide HA) _ hr ⟨rfl, rfl, rfl, rfl, rfl, rfl, rfl, rfl, rfl, rfl, rfl, rfl, rfl, rfl, rfl, rfl, rfl, rfl, rfl, rfl, rfl, rfl, rfl, rfl⟩

set_option maxHeartbeats 8000000 in
set_option maxRecDepth 100000 in
theorem five9 (a0 a1 a2 a3 a4 a5 a6 : Option Addr) (n kn c0 c1 c2 c3 c4 c5 c6 : Nat) (kk : List Int) (w : World) (Q : Exit → Act → World → Prop) (Z : Code) (a : Act) (q : Nat) (s14 s16 s20 s22 s23 s24 s25 s26 s30 s35 s36 s37 s38 : Value)
    (hkn : kn ≤ 4096) (hq : q ≤ kn)
    (hF : Fr5 a (.slice a0 n c0) (.slice a1 n c1) (.slice a2 n c2) (.slice a3 n c3) (.slice a4 n c4) (.slice a5 kn c5) (.slice a6 kk.length c6) (s14) (.int .i64 (n : Nat)) (s16) (.int .i64 (q : Nat)) (s20) (s22) (s23) (s24) (s25) (s26) (s30) (s35) (s36) (s37) (s38))
    (hZ : ∀ a' m, m = min (q + 1) kn → Fr5 a' (.slice a0 n c0) (.slice a1 n c1) (.slice a2 n c2) (.slice a3 n c3) (.slice a4 n c4) (.slice a5 kn c5) (.slice a6 kk.length c6) (s14) (.int .i64 (n : Nat)) (s16) (.int .i64 (q : Nat)) (s20) (s22) (s23) (s24) (.int .i64 (m : Nat)) (s26) (s30) (s35) (s36) (s37) (s38) → Code.wp Try.prog Z Q a' w) :
    Code.wp Try.prog (.seq (stm Try.f5.body 21) (.seq (stm Try.f5.body 22) Z)) Q a w := by
  have HZ := hide hZ
  clear hZ
  by_cases hlt : q < kn
  · have t1 : decide ((kn : Int) < (q : Int) + 1) = false := decide_eq_false (by omega)
    refine fr_open5 (fun a => Code.wp Try.prog (.seq (stm Try.f5.body 21) (.seq (stm Try.f5.body 22) Z)) Q a w) a hF ?_
    intro u7 u8 u9 u10 u11 u12 u13 u17 u18 u21 u27 u28 u29 u31 u32 u33 u34 u39 u40 u41 u42 u43 u44 u45 u46 u47 u48 u49 u50 u51 u52 u53 u54 u55 u56 u57 u58 u59 u60 u61 u62 u63 u64 u65 u66 u67 u68 u69 u70 u71 u72 u73 u74 u75 u76 u77 u78 u79 u80 u81 u82 u83 u84 u85 u86 u87 u88 u89 u90 u91 u92 u93 u94 u95 u96 u97 u98 u99 u100 u101 u102 u103 u104 u105 u106 u107 u108 u109 u110 u111 u112 u113 u114 u115 u116 u117 u118 u119 u120 u121 u122 u123 u124 u125 u126 u127 u128 u129 u130 u131 u132 u133 u134 u135 u136 u137 u138 u139 u140 u141 u142 u143 u144 u145 u146 u147 u148 u149 u150 u151 u152 u153 u154 u155 u156 u157 u158 u159 u160 u161 u162 u163 u164 u165 u166 u167 u168 u169 u170 u171 u172 u173 u174 u175 u176 u177 u178 u179 u180 u181 u182 u183 u184 u185 u186 u187 u188 u189 u190 u191 u192 u193 u194 u195 u196 u197 u198 u199 u200 u201 u202 u203 u204 u205 u206 u207 u208 u209 u210 u211 u212 u213 u214 u215 u216 u217 u218 u219 u220 u221 u222 u223 u224 u225 u226 u227 u228 u229 u230 u231 u232 u233 u234 u235 u236 u237 u238 u239 u240 u241 u242 u243 u244 u245 u246 u247 u248 u249 u250 u251 u252 u253 u254 u255 u256 u257 u258 u259 u260 u261 u262 u263 u264 u265 u266 u267 u268 u269 u270 u271 u272 u273 u274 u275 u276 u277 u278 u279 u280 u281 u282 u283 u284 u285 u286 u287 u288 u289 u290 u291 u292 u293 u294 u295 u296 u297 u298 u299 u300 u301 u302 u303 u304 u305 u306 u307 u308 u309 u310 u311 u312 u313 u314 u315 u316 u317 u318 u319 u320 u321 u322 u323 u324 u325 u326 u327 u328 u329 u330 u331 u332 u333 u334 u335 u336 u337 u338 u339 u340 u341 u342 u343 u344 u345 u346 u347 u348 u349 u350 u351 u352 u353 u354 u355 u356 u357 u358 u359 u360 u361 u362 u363 u364 u365 u366 u367 u368 u369 u370 u371 u372 u373 u374 u375 u376 u377 u378 u379 u380 u381 u382 u383 u384 u385 u386 u387 u388 u389 u390 u391 u392 u393 u394 u395 u396
    dsimp only
    conv => arg 2; arg 1; whnf
    conv => arg 2; arg 2; arg 1; whnf
    go_wp2_with fail
    exact unhide HZ _ (q + 1) (by omega) ⟨rfl, rfl, rfl, rfl, rfl, rfl, rfl, rfl, rfl, rfl, rfl, rfl, rfl, rfl, rfl, rfl, rfl, rfl, rfl, rfl, rfl, rfl, rfl, rfl⟩
  · have t1 : decide ((kn : Int) < (q : Int) + 1) = true := decide_eq_true (by omega)
    refine fr_open5 (fun a => Code.wp Try.prog (.seq (stm Try.f5.body 21) (.seq (stm Try.f5.body 22) Z)) Q a w) a hF ?_
    intro u7 u8 u9 u10 u11 u12 u13 u17 u18 u21 u27 u28 u29 u31 u32 u33 u34 u39 u40 u41 u42 u43 u44 u45 u46 u47 u48 u49 u50 u51 u52 u53 u54 u55 u56 u57 u58 u59 u60 u61 u62 u63 u64 u65 u66 u67 u68 u69 u70 u71 u72 u73 u74 u75 u76 u77 u78 u79 u80 u81 u82 u83 u84 u85 u86 u87 u88 u89 u90 u91 u92 u93 u94 u95 u96 u97 u98 u99 u100 u101 u102 u103 u104 u105 u106 u107 u108 u109 u110 u111 u112 u113 u114 u115 u116 u117 u118 u119 u120 u121 u122 u123 u124 u125 u126 u127 u128 u129 u130 u131 u132 u133 u134 u135 u136 u137 u138 u139 u140 u141 u142 u143 u144 u145 u146 u147 u148 u149 u150 u151 u152 u153 u154 u155 u156 u157 u158 u159 u160 u161 u162 u163 u164 u165 u166 u167 u168 u169 u170 u171 u172 u173 u174 u175 u176 u177 u178 u179 u180 u181 u182 u183 u184 u185 u186 u187 u188 u189 u190 u191 u192 u193 u194 u195 u196 u197 u198 u199 u200 u201 u202 u203 u204 u205 u206 u207 u208 u209 u210 u211 u212 u213 u214 u215 u216 u217 u218 u219 u220 u221 u222 u223 u224 u225 u226 u227 u228 u229 u230 u231 u232 u233 u234 u235 u236 u237 u238 u239 u240 u241 u242 u243 u244 u245 u246 u247 u248 u249 u250 u251 u252 u253 u254 u255 u256 u257 u258 u259 u260 u261 u262 u263 u264 u265 u266 u267 u268 u269 u270 u271 u272 u273 u274 u275 u276 u277 u278 u279 u280 u281 u282 u283 u284 u285 u286 u287 u288 u289 u290 u291 u292 u293 u294 u295 u296 u297 u298 u299 u300 u301 u302 u303 u304 u305 u306 u307 u308 u309 u310 u311 u312 u313 u314 u315 u316 u317 u318 u319 u320 u321 u322 u323 u324 u325 u326 u327 u328 u329 u330 u331 u332 u333 u334 u335 u336 u337 u338 u339 u340 u341 u342 u343 u344 u345 u346 u347 u348 u349 u350 u351 u352 u353 u354 u355 u356 u357 u358 u359 u360 u361 u362 u363 u364 u365 u366 u367 u368 u369 u370 u371 u372 u373 u374 u375 u376 u377 u378 u379 u380 u381 u382 u383 u384 u385 u386 u387 u388 u389 u390 u391 u392 u393 u394 u395 u396
    dsimp only
    conv => arg 2; arg 1; whnf
    conv => arg 2; arg 2; arg 1; whnf
    go_wp2_with fail
    exact unhide HZ _ kn (by omega) ⟨rfl, rfl, rfl, rfl, rfl, rfl, rfl, rfl, rfl, rfl, rfl, rfl, rfl, rfl, rfl, rfl, rfl, rfl, rfl, rfl, rfl, rfl, rfl, rfl⟩

end Go.Proofs.Qxb6002590a
