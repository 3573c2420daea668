import Derived.Test.Qxb6002590aFiveA
namespace Go.Proofs.Qxb6002590a
open Go.RowKit Go.Own

theorem pfxOf_split (S : Nat → Sp) (κ : Nat → Nat) {j q : Nat} (h : j ≤ q) : ∃ t, pfxOf S κ q = pfxOf S κ j ++ t := by
  induction q with
  | zero => exact ⟨[], by have : j = 0 := by omega
                          subst this; simp⟩
  | succ k ih =>
    by_cases e : j = k + 1
    · subst e; exact ⟨[], by simp⟩
    · obtain ⟨t, ht⟩ := ih (by omega)
      exact ⟨t ++ (S (κ k)).lo, by simp only [pfxOf]; rw [ht, List.append_assoc]⟩

theorem pfxOf_at (S : Nat → Sp) (κ : Nat → Nat) {j q t : Nat} (h : j < q) (ht : t < (S (κ j)).lo.length) : (pfxOf S κ j).length + t < (pfxOf S κ q).length ∧ (pfxOf S κ q).getD ((pfxOf S κ j).length + t) 0 = (S (κ j)).lo.getD t 0 := by
  obtain ⟨r, hr⟩ := pfxOf_split S κ (show j + 1 ≤ q from h)
  have e : pfxOf S κ (j + 1) = pfxOf S κ j ++ (S (κ j)).lo := rfl
  rw [hr, e]
  constructor
  · simp; omega
  · rw [cat_get, if_pos (by simp; omega), cat_get, if_neg (by omega)]
    simp

set_option maxHeartbeats 8000000 in
set_option maxRecDepth 100000 in
theorem five13 (a0 a1 a2 a3 a4 a5 a6 : Option Addr) (n kn c0 c1 c2 c3 c4 c5 c6 : Nat) (A0 A1 : Nat → Option Addr) (C0 C1 : Nat → Nat) (L0 L1 : Nat → List Int) (B2 B3 B4 : Nat → Bool) (κ : Nat → Nat) (kk : List Int) (w : World) (Q : Exit → Act → World → Prop) (Z : Code) (a : Act) (q : Nat) (s14 s16 s22 s23 s24 s25 s26 s30 s35 s36 s37 s38 : Value)
    (hI : In5 w a0 a1 a2 a3 a4 a5 a6 n n n n n kn c0 c1 c2 c3 c4 c5 c6 A0 A1 C0 C1 L0 L1 B2 B3 B4 (fun j => ((κ j : Nat) : Int)) kk) (hn : n ≤ 4096) (hkn : kn ≤ 4096) (hqk : q ≤ kn) (hκ : ∀ q, q < kn → κ q < n) (hpl : (pfxOf (fun i => ⟨A0 i, C0 i, L0 i, A1 i, C1 i, L1 i, B2 i, B3 i, B4 i⟩ : Nat → Sp) κ q).length ≤ 1048576)
    (hF : Fr5 a (.slice a0 n c0) (.slice a1 n c1) (.slice a2 n c2) (.slice a3 n c3) (.slice a4 n c4) (.slice a5 kn c5) (.slice a6 kk.length c6) (s14) (.int .i64 (n : Nat)) (s16) (.int .i64 (q : Nat)) (.int .i64 ((pfxOf (fun i => ⟨A0 i, C0 i, L0 i, A1 i, C1 i, L1 i, B2 i, B3 i, B4 i⟩ : Nat → Sp) κ q).length : Nat)) (s22) (s23) (s24) (s25) (s26) (s30) (s35) (s36) (s37) (s38))
    (hZ : ∀ a' w' pa pc, Below w.heap.size w w' → BytesAt w' pa pc (pfxOf (fun i => ⟨A0 i, C0 i, L0 i, A1 i, C1 i, L1 i, B2 i, B3 i, B4 i⟩ : Nat → Sp) κ q) → Fr5 a' (.slice a0 n c0) (.slice a1 n c1) (.slice a2 n c2) (.slice a3 n c3) (.slice a4 n c4) (.slice a5 kn c5) (.slice a6 kk.length c6) (s14) (.int .i64 (n : Nat)) (s16) (.int .i64 (q : Nat)) (.int .i64 ((pfxOf (fun i => ⟨A0 i, C0 i, L0 i, A1 i, C1 i, L1 i, B2 i, B3 i, B4 i⟩ : Nat → Sp) κ q).length : Nat)) (s22) (s23) (s24) (s25) (s26) (.slice pa (pfxOf (fun i => ⟨A0 i, C0 i, L0 i, A1 i, C1 i, L1 i, B2 i, B3 i, B4 i⟩ : Nat → Sp) κ q).length pc) (s35) (s36) (s37) (s38) → Code.wp Try.prog Z Q a' w') :
    Code.wp Try.prog (.seq (stm Try.f5.body 27) (.seq (stm Try.f5.body 28) Z)) Q a w := by
  have hpos := fun j t h ht => pfxOf_at (fun i => ⟨A0 i, C0 i, L0 i, A1 i, C1 i, L1 i, B2 i, B3 i, B4 i⟩ : Nat → Sp) κ (j := j) (q := q) (t := t) h ht
  have hz0 : pfxOf (fun i => ⟨A0 i, C0 i, L0 i, A1 i, C1 i, L1 i, B2 i, B3 i, B4 i⟩ : Nat → Sp) κ 0 = [] := rfl
  have hsc : ∀ j, pfxOf (fun i => ⟨A0 i, C0 i, L0 i, A1 i, C1 i, L1 i, B2 i, B3 i, B4 i⟩ : Nat → Sp) κ (j + 1) = pfxOf (fun i => ⟨A0 i, C0 i, L0 i, A1 i, C1 i, L1 i, B2 i, B3 i, B4 i⟩ : Nat → Sp) κ j ++ L0 (κ j) := fun j => rfl
  generalize hP : (pfxOf (fun i => ⟨A0 i, C0 i, L0 i, A1 i, C1 i, L1 i, B2 i, B3 i, B4 i⟩ : Nat → Sp) κ q) = p at hpl hF hZ hpos
  generalize hG : pfxOf (fun i => ⟨A0 i, C0 i, L0 i, A1 i, C1 i, L1 i, B2 i, B3 i, B4 i⟩ : Nat → Sp) κ = G at hpos hz0 hsc hP
  have HZ := hide hZ
  have HPOS := hide hpos
  have HZ0 := hide hz0
  have HSC := hide hsc
  have HP := hide hP
  clear hZ hpos hz0 hsc hG hP
  by_cases h0 : p.length = 0
  · have hp : p = [] := List.length_eq_zero_iff.1 h0
    subst hp
    simp only [List.length_nil] at hF HZ
    refine fr_open5 (fun a => Code.wp Try.prog (.seq (stm Try.f5.body 27) (.seq (stm Try.f5.body 28) Z)) Q a w) a hF ?_
    intro u7 u8 u9 u10 u11 u12 u13 u17 u18 u21 u27 u28 u29 u31 u32 u33 u34 u39 u40 u41 u42 u43 u44 u45 u46 u47 u48 u49 u50 u51 u52 u53 u54 u55 u56 u57 u58 u59 u60 u61 u62 u63 u64 u65 u66 u67 u68 u69 u70 u71 u72 u73 u74 u75 u76 u77 u78 u79 u80 u81 u82 u83 u84 u85 u86 u87 u88 u89 u90 u91 u92 u93 u94 u95 u96 u97 u98 u99 u100 u101 u102 u103 u104 u105 u106 u107 u108 u109 u110 u111 u112 u113 u114 u115 u116 u117 u118 u119 u120 u121 u122 u123 u124 u125 u126 u127 u128 u129 u130 u131 u132 u133 u134 u135 u136 u137 u138 u139 u140 u141 u142 u143 u144 u145 u146 u147 u148 u149 u150 u151 u152 u153 u154 u155 u156 u157 u158 u159 u160 u161 u162 u163 u164 u165 u166 u167 u168 u169 u170 u171 u172 u173 u174 u175 u176 u177 u178 u179 u180 u181 u182 u183 u184 u185 u186 u187 u188 u189 u190 u191 u192 u193 u194 u195 u196 u197 u198 u199 u200 u201 u202 u203 u204 u205 u206 u207 u208 u209 u210 u211 u212 u213 u214 u215 u216 u217 u218 u219 u220 u221 u222 u223 u224 u225 u226 u227 u228 u229 u230 u231 u232 u233 u234 u235 u236 u237 u238 u239 u240 u241 u242 u243 u244 u245 u246 u247 u248 u249 u250 u251 u252 u253 u254 u255 u256 u257 u258 u259 u260 u261 u262 u263 u264 u265 u266 u267 u268 u269 u270 u271 u272 u273 u274 u275 u276 u277 u278 u279 u280 u281 u282 u283 u284 u285 u286 u287 u288 u289 u290 u291 u292 u293 u294 u295 u296 u297 u298 u299 u300 u301 u302 u303 u304 u305 u306 u307 u308 u309 u310 u311 u312 u313 u314 u315 u316 u317 u318 u319 u320 u321 u322 u323 u324 u325 u326 u327 u328 u329 u330 u331 u332 u333 u334 u335 u336 u337 u338 u339 u340 u341 u342 u343 u344 u345 u346 u347 u348 u349 u350 u351 u352 u353 u354 u355 u356 u357 u358 u359 u360 u361 u362 u363 u364 u365 u366 u367 u368 u369 u370 u371 u372 u373 u374 u375 u376 u377 u378 u379 u380 u381 u382 u383 u384 u385 u386 u387 u388 u389 u390 u391 u392 u393 u394 u395 u396
    dsimp only
    conv => arg 2; arg 1; whnf
    conv => arg 2; arg 2; arg 1; whnf
    go_wp2_with fail
    exact unhide HZ _ _ Option.none 0 (Below.refl _ _) (SliceAt.of_nil _ _) ⟨rfl, rfl, rfl, rfl, rfl, rfl, rfl, rfl, rfl, rfl, rfl, rfl, rfl, rfl, rfl, rfl, rfl, rfl, rfl, rfl, rfl, rfl, rfl, rfl⟩
  · have t0 : decide ((0 : Int) < (p.length : Int)) = true := decide_eq_true (by omega)
    have hmk := run_make_row' (P := Try.prog) 22 5 (.int .u8 0) 1 Try.underlying22 Try.info5 rfl .i64 .i64 p.length (by omega) (by omega)
    refine fr_open5 (fun a => Code.wp Try.prog (.seq (stm Try.f5.body 27) (.seq (stm Try.f5.body 28) Z)) Q a w) a hF ?_
    intro u7 u8 u9 u10 u11 u12 u13 u17 u18 u21 u27 u28 u29 u31 u32 u33 u34 u39 u40 u41 u42 u43 u44 u45 u46 u47 u48 u49 u50 u51 u52 u53 u54 u55 u56 u57 u58 u59 u60 u61 u62 u63 u64 u65 u66 u67 u68 u69 u70 u71 u72 u73 u74 u75 u76 u77 u78 u79 u80 u81 u82 u83 u84 u85 u86 u87 u88 u89 u90 u91 u92 u93 u94 u95 u96 u97 u98 u99 u100 u101 u102 u103 u104 u105 u106 u107 u108 u109 u110 u111 u112 u113 u114 u115 u116 u117 u118 u119 u120 u121 u122 u123 u124 u125 u126 u127 u128 u129 u130 u131 u132 u133 u134 u135 u136 u137 u138 u139 u140 u141 u142 u143 u144 u145 u146 u147 u148 u149 u150 u151 u152 u153 u154 u155 u156 u157 u158 u159 u160 u161 u162 u163 u164 u165 u166 u167 u168 u169 u170 u171 u172 u173 u174 u175 u176 u177 u178 u179 u180 u181 u182 u183 u184 u185 u186 u187 u188 u189 u190 u191 u192 u193 u194 u195 u196 u197 u198 u199 u200 u201 u202 u203 u204 u205 u206 u207 u208 u209 u210 u211 u212 u213 u214 u215 u216 u217 u218 u219 u220 u221 u222 u223 u224 u225 u226 u227 u228 u229 u230 u231 u232 u233 u234 u235 u236 u237 u238 u239 u240 u241 u242 u243 u244 u245 u246 u247 u248 u249 u250 u251 u252 u253 u254 u255 u256 u257 u258 u259 u260 u261 u262 u263 u264 u265 u266 u267 u268 u269 u270 u271 u272 u273 u274 u275 u276 u277 u278 u279 u280 u281 u282 u283 u284 u285 u286 u287 u288 u289 u290 u291 u292 u293 u294 u295 u296 u297 u298 u299 u300 u301 u302 u303 u304 u305 u306 u307 u308 u309 u310 u311 u312 u313 u314 u315 u316 u317 u318 u319 u320 u321 u322 u323 u324 u325 u326 u327 u328 u329 u330 u331 u332 u333 u334 u335 u336 u337 u338 u339 u340 u341 u342 u343 u344 u345 u346 u347 u348 u349 u350 u351 u352 u353 u354 u355 u356 u357 u358 u359 u360 u361 u362 u363 u364 u365 u366 u367 u368 u369 u370 u371 u372 u373 u374 u375 u376 u377 u378 u379 u380 u381 u382 u383 u384 u385 u386 u387 u388 u389 u390 u391 u392 u393 u394 u395 u396
    dsimp only
    conv => arg 2; arg 1; whnf
    conv => arg 2; arg 2; arg 1; whnf
    go_wp2_with fail
    go_loopw [31, 32] (fun t i wr => ∃ j : Nat, j ≤ q ∧ i = .int .i64 j ∧ t = .int .i64 ((G j).length : Nat) ∧ Below w.heap.size w wr ∧ wr.rowIs w.heap.size 5 p.length (fun i => if i < (G j).length then .int .u8 (p.getD i 0) else .int .u8 0)) (fun _ i _ => q - (intOf i).toNat)
    case atStart =>
      refine ⟨0, Nat.zero_le _, rfl, by rw [unhide HZ0]; rfl, (Below.refl _ _).alloc (Nat.le_refl _) _, ?_⟩
      rw [unhide HZ0]
      simpa using World.rowIs_made w (.int .u8 0) p.length 5
    case round =>
      obtain ⟨j, hj, rfl, rfl, hbr, hrow⟩ := hrel
      by_cases hlt : j < q
      · have li : (j : Int) < (q : Int) := by omega
        have lk2 : (j : Int) < (kn : Int) := by omega
        have hκq := hκ j (by omega)
        have lk : ((κ j : Nat) : Int) < (n : Int) := by omega
        obtain ⟨b5, o5, rfl, f5⟩ := hI.h5.cells (by omega)
        replace f5 := cell_below hbr (f5 j (by omega))
        obtain ⟨b0, o0, rfl, f0⟩ := hI.h0.cells (by omega)
        replace f0 := cell_below hbr (f0 _ hκq)
        have g0 := (hI.r0 _ hκq).1
        have HPJ := hide (fun t => unhide HPOS j t hlt)
        have HSJ := hide (unhide HSC j)
        generalize A0 (κ j) = aq at f0 g0
        have HR := hide hrow
        clear hrow hmk
        generalize hgj : (G j).length = d at HPJ HR ⊢
        have HGJ := hide hgj
        clear hgj
        go_wp2_with fail
        go_loopw [31, 34] (fun t i wr => ∃ y : Nat, y ≤ (L0 (κ j)).length ∧ i = .int .i64 y ∧ t = .int .i64 ((d + y : Nat) : Int) ∧ Below w.heap.size w wr ∧ wr.rowIs w.heap.size 5 p.length (fun i => if i < d + y then .int .u8 (p.getD i 0) else .int .u8 0)) (fun _ i _ => (L0 (κ j)).length - (intOf i).toNat)
        case atStart => exact ⟨0, Nat.zero_le _, rfl, rfl, hbr, by simpa using unhide HR⟩
        case round =>
          obtain ⟨y, hy, rfl, rfl, hbr', hrow⟩ := hrel
          by_cases hlt' : y < (L0 (κ j)).length
          · have li' : (y : Int) < ((L0 (κ j)).length : Int) := by omega
            obtain ⟨b, off, rfl, hcs⟩ := g0.cells (by omega)
            have hck := cell_below hbr' (hcs y hlt')
            simp only [By] at hck
            obtain ⟨e1, e2⟩ := unhide HPJ y hlt'
            have e2' : p.getD (d + y) 0 = (L0 (κ j)).getD y 0 := e2
            have hd := hrow.cell (i := d + y) e1
            have hf := hrow.frozen (d + y)
            have lp : ((d + y : Nat) : Int) < (p.length : Int) := by omega
            have HRO := hide hrow
            have HE2 := hide e2'
            generalize (L0 (κ j)).getD y 0 = x at hck HE2
            clear hrow hcs e2 e2'
            go_wp2_with fail
            go_roundw
            case rel => exact ⟨y + 1, hlt', by go_num, by go_num, hbr'.setCell (Nat.le_refl _) _, ((unhide HRO).set (d + y) _).congr fun i hi => set_step i (d + y) p x (unhide HE2)⟩
            case measure => simp [intOf]; omega
          · have e : y = (L0 (κ j)).length := by omega
            have HRO := hide hrow
            clear hrow
            have e3 : (G (j + 1)).length = d + y := by rw [unhide HSJ, List.length_append, unhide HGJ, e]
            have HE3 := hide e3
            clear e3
            have li' : ((L0 (κ j)).length : Int) ≤ (y : Int) := by omega
            clear e
            go_wp2_with fail
            go_roundw
            case rel => exact ⟨j + 1, hlt, by go_num, by rw [unhide HE3], hbr', by rw [unhide HE3]; exact unhide HRO⟩
            case measure => simp [intOf]; omega
      · have e : j = q := by omega
        subst e
        have HR := hide hrow
        have HPP := hide (unhide HP)
        clear hrow hmk
        generalize hgj : G j = g at HPP HR ⊢
        have e4 : g = p := unhide HPP
        subst e4
        clear hgj
        go_wp2_with fail
        exact unhide HZ _ _ _ _ hbr (SliceAt.of_row ((unhide HR).congr fun i hi => if_pos hi)) ⟨rfl, rfl, rfl, rfl, rfl, rfl, rfl, rfl, rfl, rfl, rfl, rfl, rfl, rfl, rfl, rfl, rfl, rfl, rfl, rfl, rfl, rfl, rfl, rfl⟩

end Go.Proofs.Qxb6002590a
