import Derived.Test.Qxb6002590aFiveA
namespace Go.Proofs.Qxb6002590a
open Go.RowKit Go.Own

set_option maxHeartbeats 8000000 in
set_option maxRecDepth 100000 in
theorem five4 (a0 a1 a2 a3 a4 a5 a6 : Option Addr) (n kn c0 c1 c2 c3 c4 c5 c6 : Nat) (A0 A1 : Nat → Option Addr) (C0 C1 : Nat → Nat) (L0 L1 : Nat → List Int) (B2 B3 B4 : Nat → Bool) (κ : Nat → Nat) (kk : List Int) (W : World) (Q : Exit → Act → World → Prop) (Z : Code) (a : Act) (s14 s16 s19 s20 s22 s23 s24 s25 s26 s30 s35 s36 s37 s38 : Value)
    (hI : In5 W a0 a1 a2 a3 a4 a5 a6 n n n n n kn c0 c1 c2 c3 c4 c5 c6 A0 A1 C0 C1 L0 L1 B2 B3 B4 (fun j => ((κ j : Nat) : Int)) kk) (hkn : kn ≤ 4096) (hκ : ∀ q, q < kn → κ q < n) (hl : ∀ i, i < n → (L0 i).length ≤ 1048576 ∧ (L1 i).length ≤ 1048576)
    (hF : Fr5 a (.slice a0 n c0) (.slice a1 n c1) (.slice a2 n c2) (.slice a3 n c3) (.slice a4 n c4) (.slice a5 kn c5) (.slice a6 kk.length c6) (s14) (.int .i64 (n : Nat)) (s16) (s19) (s20) (s22) (s23) (s24) (s25) (s26) (s30) (s35) (s36) (s37) (s38))
    (hZ : ∀ a' (j q : Nat), IsEq (fun i => ⟨A0 i, C0 i, L0 i, A1 i, C1 i, L1 i, B2 i, B3 i, B4 i⟩ : Nat → Sp) κ kn q → Fr5 a' (.slice a0 n c0) (.slice a1 n c1) (.slice a2 n c2) (.slice a3 n c3) (.slice a4 n c4) (.slice a5 kn c5) (.slice a6 kk.length c6) (s14) (.int .i64 (n : Nat)) (s16) (.int .i64 (q : Nat)) (s20) (s22) (s23) (s24) (s25) (s26) (s30) (s35) (s36) (s37) (s38) → Code.wp Try.prog Z Q a' (W.drewN j)) :
    Code.wp Try.prog (.seq (stm Try.f5.body 9) (.seq (stm Try.f5.body 10) Z)) Q a W := by
  have HZ := hide hZ
  clear hZ
  refine fr_open5 (fun a => Code.wp Try.prog (.seq (stm Try.f5.body 9) (.seq (stm Try.f5.body 10) Z)) Q a W) a hF ?_
  intro u7 u8 u9 u10 u11 u12 u13 u17 u18 u21 u27 u28 u29 u31 u32 u33 u34 u39 u40 u41 u42 u43 u44 u45 u46 u47 u48 u49 u50 u51 u52 u53 u54 u55 u56 u57 u58 u59 u60 u61 u62 u63 u64 u65 u66 u67 u68 u69 u70 u71 u72 u73 u74 u75 u76 u77 u78 u79 u80 u81 u82 u83 u84 u85 u86 u87 u88 u89 u90 u91 u92 u93 u94 u95 u96 u97 u98 u99 u100 u101 u102 u103 u104 u105 u106 u107 u108 u109 u110 u111 u112 u113 u114 u115 u116 u117 u118 u119 u120 u121 u122 u123 u124 u125 u126 u127 u128 u129 u130 u131 u132 u133 u134 u135 u136 u137 u138 u139 u140 u141 u142 u143 u144 u145 u146 u147 u148 u149 u150 u151 u152 u153 u154 u155 u156 u157 u158 u159 u160 u161 u162 u163 u164 u165 u166 u167 u168 u169 u170 u171 u172 u173 u174 u175 u176 u177 u178 u179 u180 u181 u182 u183 u184 u185 u186 u187 u188 u189 u190 u191 u192 u193 u194 u195 u196 u197 u198 u199 u200 u201 u202 u203 u204 u205 u206 u207 u208 u209 u210 u211 u212 u213 u214 u215 u216 u217 u218 u219 u220 u221 u222 u223 u224 u225 u226 u227 u228 u229 u230 u231 u232 u233 u234 u235 u236 u237 u238 u239 u240 u241 u242 u243 u244 u245 u246 u247 u248 u249 u250 u251 u252 u253 u254 u255 u256 u257 u258 u259 u260 u261 u262 u263 u264 u265 u266 u267 u268 u269 u270 u271 u272 u273 u274 u275 u276 u277 u278 u279 u280 u281 u282 u283 u284 u285 u286 u287 u288 u289 u290 u291 u292 u293 u294 u295 u296 u297 u298 u299 u300 u301 u302 u303 u304 u305 u306 u307 u308 u309 u310 u311 u312 u313 u314 u315 u316 u317 u318 u319 u320 u321 u322 u323 u324 u325 u326 u327 u328 u329 u330 u331 u332 u333 u334 u335 u336 u337 u338 u339 u340 u341 u342 u343 u344 u345 u346 u347 u348 u349 u350 u351 u352 u353 u354 u355 u356 u357 u358 u359 u360 u361 u362 u363 u364 u365 u366 u367 u368 u369 u370 u371 u372 u373 u374 u375 u376 u377 u378 u379 u380 u381 u382 u383 u384 u385 u386 u387 u388 u389 u390 u391 u392 u393 u394 u395 u396
  dsimp only
  conv => arg 2; arg 1; whnf
  conv => arg 2; arg 2; arg 1; whnf
  go_wp2_with fail
  go_loopw [19] (fun t wr => ∃ (q j : Nat), q ≤ kn ∧ t = .int .i64 q ∧ (∀ p, p < q → ((fun i => ⟨A0 i, C0 i, L0 i, A1 i, C1 i, L1 i, B2 i, B3 i, B4 i⟩ : Nat → Sp) (κ p)).point = true) ∧ wr = W.drewN j) (fun t _ => kn - (intOf t).toNat)
  case atStart => exact ⟨0, 0, Nat.zero_le _, rfl, fun p hp => absurd hp (Nat.not_lt_zero _), rfl⟩
  case round =>
    obtain ⟨q, j, hq, rfl, hall, rfl⟩ := hrel
    have HA := hide hall
    clear hall
    have hI0 := hI.drewN j
    have hrj : Hid (∀ m, ∃ q, (W.drewN j).drewN m = W.drewN q) := fun m => ⟨j + m, World.drewN_drewN _ _ _⟩
    generalize W.drewN j = w0 at hI0 hrj ⊢
    by_cases hlt : q < kn
    · have li : (q : Int) < (kn : Int) := by omega
      have hκq := hκ q hlt
      have lk : ((κ q : Nat) : Int) < (n : Int) := by omega
      have hlq := hl _ hκq
      obtain ⟨b5, o5, rfl, f5⟩ := hI0.h5.cells (by omega)
      replace f5 := f5 q hlt
      obtain ⟨b0, o0, rfl, f0⟩ := hI0.h0.cells (by omega)
      replace f0 := f0 _ hκq
      obtain ⟨b1, o1, rfl, f1⟩ := hI0.h1.cells (by omega)
      replace f1 := f1 _ hκq
      obtain ⟨b2, o2, rfl, f2⟩ := hI0.h2.cells (by omega)
      replace f2 := f2 _ hκq
      obtain ⟨b3, o3, rfl, f3⟩ := hI0.h3.cells (by omega)
      replace f3 := f3 _ hκq
      have q1 : ∀ m, Calls Try.prog 17 #[.slice (A0 (κ q)) (L0 (κ q)).length (C0 (κ q)), .slice (A1 (κ q)) (L1 (κ q)).length (C1 (κ q)), .bool (B2 (κ q)), .bool (B3 (κ q))] (w0.drewN m) fun e w'' => e = .returned (.bool ((fun i => ⟨A0 i, C0 i, L0 i, A1 i, C1 i, L1 i, B2 i, B3 i, B4 i⟩ : Nat → Sp) (κ q)).point) ∧ ∃ q, w'' = w0.drewN q := fun m => Calls.quiet_of (point17 ((fun i => ⟨A0 i, C0 i, L0 i, A1 i, C1 i, L1 i, B2 i, B3 i, B4 i⟩ : Nat → Sp) (κ q)) (w0.drewN m) ⟨(hI0.r0 _ hκq).1.drewN m, (hI0.r1 _ hκq).1.drewN m, (hI0.r0 _ hκq).2, (hI0.r1 _ hκq).2⟩ (by simp only; omega) (by simp only; omega))
      cases hp : ((fun i => ⟨A0 i, C0 i, L0 i, A1 i, C1 i, L1 i, B2 i, B3 i, B4 i⟩ : Nat → Sp) (κ q)).point
      · rw [hp] at q1
        have HP := hide hp
        clear hI0 hp
        go_wp2_with fail
        go_quiet ((go_at_call 17; with_reducible exact q1 _))
        go_wp2_with fail
        obtain ⟨qq, hqq⟩ := unhide hrj nq
        rw [hqq]
        exact unhide HZ _ _ q ⟨hq, unhide HA, fun _ => unhide HP⟩ ⟨rfl, rfl, rfl, rfl, rfl, rfl, rfl, rfl, rfl, rfl, rfl, rfl, rfl, rfl, rfl, rfl, rfl, rfl, rfl, rfl, rfl, rfl, rfl, rfl⟩
      · rw [hp] at q1
        have HP := hide hp
        clear hI0 hp
        go_wp2_with fail
        go_quiet ((go_at_call 17; with_reducible exact q1 _))
        go_wp2_with fail
        go_roundw
        case rel =>
          obtain ⟨qq, hqq⟩ := unhide hrj nq
          exact ⟨q + 1, qq, hlt, by go_num, fun p hp => (by
            by_cases e : p = q
            · subst e; exact unhide HP
            · exact unhide HA p (by omega)), hqq⟩
        case measure => simp [intOf]; omega
    · have li : (kn : Int) ≤ (q : Int) := by omega
      have li2 : decide ((q : Int) < (kn : Int)) = false := decide_eq_false (by omega)
      clear hI0
      go_wp2_with fail
      go_quiet (fail)
      go_wp2_with fail
      obtain ⟨qq, hqq⟩ := unhide hrj nq
      rw [hqq]
      exact unhide HZ _ _ q ⟨hq, unhide HA, fun h => absurd h hlt⟩ ⟨rfl, rfl, rfl, rfl, rfl, rfl, rfl, rfl, rfl, rfl, rfl, rfl, rfl, rfl, rfl, rfl, rfl, rfl, rfl, rfl, rfl, rfl, rfl, rfl⟩

end Go.Proofs.Qxb6002590a
