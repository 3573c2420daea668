import Derived.Test.Qxb6002590aFiveG
namespace Go.Proofs.Qxb6002590a
open Go.RowKit Go.Own

theorem unOf_split (S : Nat → Sp) (κ : Nat → Nat) (kn m : Nat) {i n : Nat} (h : i ≤ n) : ∃ t, unOf S κ kn m n = unOf S κ kn m i ++ t := by
  induction n with
  | zero => exact ⟨[], by have : i = 0 := by omega
                          subst this; simp⟩
  | succ k ih =>
    by_cases e : i = k + 1
    · subst e; exact ⟨[], by simp⟩
    · obtain ⟨t, ht⟩ := ih (by omega)
      exact ⟨_, by rw [unOf_succ, ht, List.append_assoc]⟩

theorem unOf_at (S : Nat → Sp) (κ : Nat → Nat) (kn m : Nat) {i n : Nat} (h : i < n) (hp : ((S i).na && !among κ kn m (i : Int)) = true) : (unOf S κ kn m i).length < (unOf S κ kn m n).length ∧ (unOf S κ kn m n).getD (unOf S κ kn m i).length 0 = (i : Int) := by
  obtain ⟨t, ht⟩ := unOf_split S κ kn m (show i + 1 ≤ n from h)
  have h1 := unOf_succ S κ kn m i
  rw [if_pos (show ((S i).na && !((zs κ kn).take m).contains (i : Int)) = true from hp)] at h1
  rw [ht, h1]
  constructor
  · simp
  · simp [List.getD_eq_getElem?_getD]

set_option maxHeartbeats 8000000 in
set_option maxRecDepth 100000 in
theorem five11 (a0 a1 a2 a3 a4 a5 a6 : Option Addr) (n kn c0 c1 c2 c3 c4 c5 c6 : Nat) (A0 A1 : Nat → Option Addr) (C0 C1 : Nat → Nat) (L0 L1 : Nat → List Int) (B2 B3 B4 : Nat → Bool) (κ : Nat → Nat) (kk : List Int) (w : World) (Q : Exit → Act → World → Prop) (Z : Code) (a : Act) (m rb : Nat) (va : Option Addr) (vc : Nat) (un : List Int) (s14 s16 s19 s20 s30 s35 s36 s37 s38 : Value)
    (hI : In5 w a0 a1 a2 a3 a4 a5 a6 n n n n n kn c0 c1 c2 c3 c4 c5 c6 A0 A1 C0 C1 L0 L1 B2 B3 B4 (fun j => ((κ j : Nat) : Int)) kk) (hn : n ≤ 4096) (hkn : kn ≤ 4096) (hm : m ≤ kn) (hun : un = (unOf (fun i => ⟨A0 i, C0 i, L0 i, A1 i, C1 i, L1 i, B2 i, B3 i, B4 i⟩ : Nat → Sp) κ kn m n)) (hne : 0 < un.length) (hlen : un.length ≤ 4096) (hv : SliceAt w va un.length vc (fun p => .int .i64 (un.getD p 0))) (hr : RngAt w rb Option.none Option.none)
    (hF : Fr5 a (.slice a0 n c0) (.slice a1 n c1) (.slice a2 n c2) (.slice a3 n c3) (.slice a4 n c4) (.slice a5 kn c5) (.slice a6 kk.length c6) (s14) (.int .i64 (n : Nat)) (s16) (s19) (s20) (.pointer (some ⟨rb, 0, Option.none⟩)) (.bool false) (.slice va un.length vc) (.int .i64 (m : Nat)) (.int .i64 (un.length : Nat)) (s30) (s35) (s36) (s37) (s38))
    (hR : RetOk5 Q w) :
    Code.wp Try.prog (.seq (stm Try.f5.body 25) Z) Q a w := by
  have HR := hide hR
  have hpn := ptr_nnil
  obtain ⟨k0, k1, k2, k3⟩ := hr.cells
  have HUN := hide hun
  have hp0 : (0 : Int) < (un.length : Int) := by omega
  clear hR hr hun
  refine fr_open5 (fun a => Code.wp Try.prog (.seq (stm Try.f5.body 25) Z) Q a w) a hF ?_
  intro u7 u8 u9 u10 u11 u12 u13 u17 u18 u21 u27 u28 u29 u31 u32 u33 u34 u39 u40 u41 u42 u43 u44 u45 u46 u47 u48 u49 u50 u51 u52 u53 u54 u55 u56 u57 u58 u59 u60 u61 u62 u63 u64 u65 u66 u67 u68 u69 u70 u71 u72 u73 u74 u75 u76 u77 u78 u79 u80 u81 u82 u83 u84 u85 u86 u87 u88 u89 u90 u91 u92 u93 u94 u95 u96 u97 u98 u99 u100 u101 u102 u103 u104 u105 u106 u107 u108 u109 u110 u111 u112 u113 u114 u115 u116 u117 u118 u119 u120 u121 u122 u123 u124 u125 u126 u127 u128 u129 u130 u131 u132 u133 u134 u135 u136 u137 u138 u139 u140 u141 u142 u143 u144 u145 u146 u147 u148 u149 u150 u151 u152 u153 u154 u155 u156 u157 u158 u159 u160 u161 u162 u163 u164 u165 u166 u167 u168 u169 u170 u171 u172 u173 u174 u175 u176 u177 u178 u179 u180 u181 u182 u183 u184 u185 u186 u187 u188 u189 u190 u191 u192 u193 u194 u195 u196 u197 u198 u199 u200 u201 u202 u203 u204 u205 u206 u207 u208 u209 u210 u211 u212 u213 u214 u215 u216 u217 u218 u219 u220 u221 u222 u223 u224 u225 u226 u227 u228 u229 u230 u231 u232 u233 u234 u235 u236 u237 u238 u239 u240 u241 u242 u243 u244 u245 u246 u247 u248 u249 u250 u251 u252 u253 u254 u255 u256 u257 u258 u259 u260 u261 u262 u263 u264 u265 u266 u267 u268 u269 u270 u271 u272 u273 u274 u275 u276 u277 u278 u279 u280 u281 u282 u283 u284 u285 u286 u287 u288 u289 u290 u291 u292 u293 u294 u295 u296 u297 u298 u299 u300 u301 u302 u303 u304 u305 u306 u307 u308 u309 u310 u311 u312 u313 u314 u315 u316 u317 u318 u319 u320 u321 u322 u323 u324 u325 u326 u327 u328 u329 u330 u331 u332 u333 u334 u335 u336 u337 u338 u339 u340 u341 u342 u343 u344 u345 u346 u347 u348 u349 u350 u351 u352 u353 u354 u355 u356 u357 u358 u359 u360 u361 u362 u363 u364 u365 u366 u367 u368 u369 u370 u371 u372 u373 u374 u375 u376 u377 u378 u379 u380 u381 u382 u383 u384 u385 u386 u387 u388 u389 u390 u391 u392 u393 u394 u395 u396
  dsimp only
  conv => arg 2; arg 1; whnf
  go_wp2_with fail
  go_loopw [28, 29] (fun c t wr => ∃ i : Nat, i ≤ n ∧ t = .int .i64 i ∧ c = .int .i64 ((unOf (fun i => ⟨A0 i, C0 i, L0 i, A1 i, C1 i, L1 i, B2 i, B3 i, B4 i⟩ : Nat → Sp) κ kn m i).length : Nat) ∧ (unOf (fun i => ⟨A0 i, C0 i, L0 i, A1 i, C1 i, L1 i, B2 i, B3 i, B4 i⟩ : Nat → Sp) κ kn m i).length ≤ i ∧ wr = w) (fun _ t _ => n - (intOf t).toNat)
  case atStart => exact ⟨0, Nat.zero_le _, rfl, rfl, Nat.le_refl _, rfl⟩
  case round =>
    obtain ⟨i, hin, rfl, rfl, hul, rfl⟩ := hrel
    by_cases hlt : i < n
    · have li : (i : Int) < (n : Int) := by omega
      obtain ⟨b4, o4, rfl, f4⟩ := hI.h4.cells (by omega)
      replace f4 := f4 i hlt
      have ham := among22 a5 kn c5 m κ i wr hI.h5 hm (by omega)
      have hsucc : unOf (fun i => ⟨A0 i, C0 i, L0 i, A1 i, C1 i, L1 i, B2 i, B3 i, B4 i⟩ : Nat → Sp) κ kn m (i + 1) = unOf (fun i => ⟨A0 i, C0 i, L0 i, A1 i, C1 i, L1 i, B2 i, B3 i, B4 i⟩ : Nat → Sp) κ kn m i ++ (if (B4 i && !among κ kn m (i : Int)) = true then [(i : Int)] else []) := unOf_succ _ _ _ _ _
      have hat : (B4 i && !among κ kn m (i : Int)) = true → (unOf (fun i => ⟨A0 i, C0 i, L0 i, A1 i, C1 i, L1 i, B2 i, B3 i, B4 i⟩ : Nat → Sp) κ kn m i).length < un.length ∧ un.getD (unOf (fun i => ⟨A0 i, C0 i, L0 i, A1 i, C1 i, L1 i, B2 i, B3 i, B4 i⟩ : Nat → Sp) κ kn m i).length 0 = (i : Int) := fun h => by rw [unhide HUN]; exact unOf_at (fun i => ⟨A0 i, C0 i, L0 i, A1 i, C1 i, L1 i, B2 i, B3 i, B4 i⟩ : Nat → Sp) κ kn m hlt h
      have HU := hide hsucc
      have HAT := hide hat
      clear hsucc hat
      generalize hx : (unOf (fun i => ⟨A0 i, C0 i, L0 i, A1 i, C1 i, L1 i, B2 i, B3 i, B4 i⟩ : Nat → Sp) κ kn m i) = x at HU HAT hul
      clear hx
      cases hb : B4 i
      · rw [hb] at f4 HU
        clear ham
        go_wp2_with fail
        go_roundw
        case rel => exact ⟨i + 1, hlt, by go_num, by rw [unhide HU]; simp, by rw [unhide HU]; simp; omega, by first | rfl | trivial⟩
        case measure => simp [intOf]; omega
      · rw [hb] at f4 HU HAT
        cases hc : among κ kn m (i : Int)
        · rw [hc] at ham HU HAT
          obtain ⟨g1, g2⟩ := unhide HAT rfl
          obtain ⟨bv, ov, rfl, fv⟩ := hv.cells (by omega)
          replace fv := fv x.length g1
          rw [g2] at fv
          have lv : (x.length : Int) < (un.length : Int) := by omega
          clear g2 HAT
          go_wp2_with fail
          refine ham.mono ?_
          rintro e w1 ⟨rfl, rfl⟩
          go_wp2_with fail
          go_roundw
          case rel => exact ⟨i + 1, hlt, by go_num, by rw [unhide HU]; simp, by rw [unhide HU]; simp; omega, by first | rfl | trivial⟩
          case measure => simp [intOf]; omega
        · rw [hc] at ham HU
          clear HAT
          go_wp2_with fail
          refine ham.mono ?_
          rintro e w1 ⟨rfl, rfl⟩
          go_wp2_with fail
          go_roundw
          case rel => exact ⟨i + 1, hlt, by go_num, by rw [unhide HU]; simp, by rw [unhide HU]; simp; omega, by first | rfl | trivial⟩
          case measure => simp [intOf]; omega
    · have e : i = n := by omega
      subst e
      generalize (unOf (fun i => ⟨A0 i, C0 i, L0 i, A1 i, C1 i, L1 i, B2 i, B3 i, B4 i⟩ : Nat → Sp) κ kn m i) = x at hul ⊢
      go_wp2_with fail
      exact unhide HR _ 0 _ _ _ _ _ _ _ _ _ _ _ _ _ _ _ _ _ _ _ _ _ ⟨rfl, rfl, rfl, rfl, rfl, rfl, rfl, rfl, rfl, rfl, rfl, rfl, rfl, rfl, rfl, rfl, rfl, rfl, rfl, rfl, rfl, rfl, rfl, rfl⟩

set_option maxHeartbeats 8000000 in
set_option maxRecDepth 100000 in
theorem five11z (a0 a1 a2 a3 a4 a5 a6 : Option Addr) (n kn c0 c1 c2 c3 c4 c5 c6 : Nat) (kk : List Int) (w : World) (Q : Exit → Act → World → Prop) (Z : Code) (a : Act) (s14 s16 s19 s20 s22 s23 s25 s30 s35 s36 s37 s38 : Value)
    (hF : Fr5 a (.slice a0 n c0) (.slice a1 n c1) (.slice a2 n c2) (.slice a3 n c3) (.slice a4 n c4) (.slice a5 kn c5) (.slice a6 kk.length c6) (s14) (.int .i64 (n : Nat)) (s16) (s19) (s20) (s22) (s23) (.slice Option.none 0 0) (s25) (.int .i64 0) (s30) (s35) (s36) (s37) (s38))
    (hZ : ∀ a', Fr5 a' (.slice a0 n c0) (.slice a1 n c1) (.slice a2 n c2) (.slice a3 n c3) (.slice a4 n c4) (.slice a5 kn c5) (.slice a6 kk.length c6) (s14) (.int .i64 (n : Nat)) (s16) (s19) (s20) (s22) (s23) (.slice Option.none 0 0) (s25) (.int .i64 0) (s30) (s35) (s36) (s37) (s38) → Code.wp Try.prog Z Q a' w) :
    Code.wp Try.prog (.seq (stm Try.f5.body 25) (.seq (stm Try.f5.body 26) Z)) Q a w := by
  have HZ := hide hZ
  have hnn := nnil38
  clear hZ
  refine fr_open5 (fun a => Code.wp Try.prog (.seq (stm Try.f5.body 25) (.seq (stm Try.f5.body 26) Z)) Q a w) a hF ?_
  intro u7 u8 u9 u10 u11 u12 u13 u17 u18 u21 u27 u28 u29 u31 u32 u33 u34 u39 u40 u41 u42 u43 u44 u45 u46 u47 u48 u49 u50 u51 u52 u53 u54 u55 u56 u57 u58 u59 u60 u61 u62 u63 u64 u65 u66 u67 u68 u69 u70 u71 u72 u73 u74 u75 u76 u77 u78 u79 u80 u81 u82 u83 u84 u85 u86 u87 u88 u89 u90 u91 u92 u93 u94 u95 u96 u97 u98 u99 u100 u101 u102 u103 u104 u105 u106 u107 u108 u109 u110 u111 u112 u113 u114 u115 u116 u117 u118 u119 u120 u121 u122 u123 u124 u125 u126 u127 u128 u129 u130 u131 u132 u133 u134 u135 u136 u137 u138 u139 u140 u141 u142 u143 u144 u145 u146 u147 u148 u149 u150 u151 u152 u153 u154 u155 u156 u157 u158 u159 u160 u161 u162 u163 u164 u165 u166 u167 u168 u169 u170 u171 u172 u173 u174 u175 u176 u177 u178 u179 u180 u181 u182 u183 u184 u185 u186 u187 u188 u189 u190 u191 u192 u193 u194 u195 u196 u197 u198 u199 u200 u201 u202 u203 u204 u205 u206 u207 u208 u209 u210 u211 u212 u213 u214 u215 u216 u217 u218 u219 u220 u221 u222 u223 u224 u225 u226 u227 u228 u229 u230 u231 u232 u233 u234 u235 u236 u237 u238 u239 u240 u241 u242 u243 u244 u245 u246 u247 u248 u249 u250 u251 u252 u253 u254 u255 u256 u257 u258 u259 u260 u261 u262 u263 u264 u265 u266 u267 u268 u269 u270 u271 u272 u273 u274 u275 u276 u277 u278 u279 u280 u281 u282 u283 u284 u285 u286 u287 u288 u289 u290 u291 u292 u293 u294 u295 u296 u297 u298 u299 u300 u301 u302 u303 u304 u305 u306 u307 u308 u309 u310 u311 u312 u313 u314 u315 u316 u317 u318 u319 u320 u321 u322 u323 u324 u325 u326 u327 u328 u329 u330 u331 u332 u333 u334 u335 u336 u337 u338 u339 u340 u341 u342 u343 u344 u345 u346 u347 u348 u349 u350 u351 u352 u353 u354 u355 u356 u357 u358 u359 u360 u361 u362 u363 u364 u365 u366 u367 u368 u369 u370 u371 u372 u373 u374 u375 u376 u377 u378 u379 u380 u381 u382 u383 u384 u385 u386 u387 u388 u389 u390 u391 u392 u393 u394 u395 u396
  dsimp only
  conv => arg 2; arg 1; whnf
  conv => arg 2; arg 2; arg 1; whnf
  go_wp2_with fail
  exact unhide HZ _ ⟨rfl, rfl, rfl, rfl, rfl, rfl, rfl, rfl, rfl, rfl, rfl, rfl, rfl, rfl, rfl, rfl, rfl, rfl, rfl, rfl, rfl, rfl, rfl, rfl⟩

end Go.Proofs.Qxb6002590a
