import Derived.Test.Qxb6002590aSixD
namespace Go.Proofs.Qxb6002590a
open Go.RowKit Go.Own

/-- The value is admitted, and prefix-free against the ends. -/
def lets6 (A0 A1 : Nat → Option Addr) (L0 L1 L2 : Nat → List Int) (B3 B4 : Nat → Bool) (i : Nat) : Bool := above (L2 i) (L0 i) (A0 i).isNone (B3 i) && under (L2 i) (L1 i) (A1 i).isNone (B4 i)

set_option maxHeartbeats 8000000 in
set_option maxRecDepth 100000 in
theorem six6 (a0 a1 a2 a3 a4 a5 a6 : Option Addr) (n kn c0 c1 c2 c3 c4 c5 c6 : Nat) (A0 A1 A2 : Nat → Option Addr) (C0 C1 C2 : Nat → Nat) (L0 L1 L2 : Nat → List Int) (B3 B4 B5 : Nat → Bool) (κ : Nat → Nat) (W : World) (Q : Exit → Act → World → Prop) (Z : Code) (a : Act) (s14 s16 s19 s22 : Value)
    (hI : In6 W a0 a1 a2 a3 a4 a5 a6 n n n n n n kn c0 c1 c2 c3 c4 c5 c6 A0 A1 A2 C0 C1 C2 L0 L1 L2 B3 B4 B5 (fun j => ((κ j : Nat) : Int))) (hn : n ≤ 4096) (hl : ∀ i, i < n → (L0 i).length ≤ 1048576 ∧ (L1 i).length ≤ 1048576 ∧ (L2 i).length ≤ 1048576) (hR : RetOk Q W)
    (hF : Fr6 a (.slice a0 n c0) (.slice a1 n c1) (.slice a2 n c2) (.slice a3 n c3) (.slice a4 n c4) (.slice a5 n c5) (.slice a6 kn c6) (s14) (.int .i64 (n : Nat)) (s16) (s19) (s22))
    (hZ : ∀ a' (j : Nat) s14', (∀ i, i < n → lets6 A0 A1 L0 L1 L2 B3 B4 i = true ∧ free (L2 i) (L0 i) (A0 i).isNone = true ∧ free (L2 i) (L1 i) (A1 i).isNone = true) → Fr6 a' (.slice a0 n c0) (.slice a1 n c1) (.slice a2 n c2) (.slice a3 n c3) (.slice a4 n c4) (.slice a5 n c5) (.slice a6 kn c6) (s14') (.int .i64 (n : Nat)) (s16) (s19) (s22) → Code.wp Try.prog Z Q a' (W.drewN j)) :
    Code.wp Try.prog (.seq (stm Try.f6.body 11) Z) Q a W := by
  have HZ := hide hZ
  have HR := hide hR
  clear hZ hR
  refine fr_open6 (fun a => Code.wp Try.prog (.seq (stm Try.f6.body 11) Z) Q a W) a hF ?_
  intro u7 u8 u9 u10 u11 u12 u13 u17 u18 u20 u21 u23 u24 u25 u26 u27 u28 u29 u30 u31 u32 u33 u34 u35 u36 u37 u38 u39 u40 u41 u42 u43 u44 u45 u46 u47 u48 u49 u50 u51 u52 u53 u54 u55 u56 u57 u58 u59 u60 u61 u62 u63 u64 u65 u66 u67 u68 u69 u70 u71 u72 u73 u74 u75 u76 u77 u78 u79 u80 u81 u82 u83 u84 u85 u86 u87 u88 u89 u90 u91 u92 u93 u94 u95 u96 u97 u98 u99 u100 u101 u102 u103 u104 u105 u106 u107 u108 u109 u110 u111 u112 u113 u114 u115 u116 u117 u118 u119 u120 u121 u122 u123 u124 u125 u126 u127 u128 u129 u130 u131 u132 u133 u134 u135 u136 u137 u138 u139 u140 u141 u142 u143 u144 u145 u146 u147 u148 u149 u150 u151 u152 u153 u154 u155 u156 u157 u158 u159 u160 u161 u162 u163 u164 u165 u166 u167 u168 u169 u170 u171 u172 u173 u174 u175 u176 u177 u178 u179 u180 u181 u182 u183 u184 u185 u186 u187 u188 u189 u190 u191 u192 u193 u194 u195 u196 u197 u198 u199 u200 u201 u202 u203 u204 u205 u206 u207 u208 u209 u210 u211 u212 u213 u214 u215 u216 u217 u218 u219 u220 u221 u222 u223 u224 u225 u226 u227 u228 u229 u230 u231 u232 u233 u234 u235 u236 u237 u238 u239 u240 u241 u242 u243 u244 u245 u246 u247 u248 u249 u250 u251 u252 u253 u254 u255 u256 u257 u258 u259 u260 u261 u262 u263 u264 u265 u266 u267 u268 u269 u270 u271 u272 u273 u274 u275 u276 u277 u278 u279 u280 u281 u282 u283 u284 u285 u286 u287 u288 u289 u290 u291 u292 u293 u294 u295 u296 u297 u298 u299 u300 u301 u302 u303 u304 u305 u306 u307 u308 u309 u310 u311 u312 u313 u314 u315 u316 u317 u318 u319 u320 u321 u322 u323 u324 u325 u326 u327 u328 u329 u330 u331 u332 u333 u334 u335 u336 u337 u338
  dsimp only
  conv => arg 2; arg 1; whnf
  go_wp2_with fail
  go_loopw [21] (fun t wr => ∃ (i j : Nat), i ≤ n ∧ t = .int .i64 i ∧ (∀ p, p < i → lets6 A0 A1 L0 L1 L2 B3 B4 p = true ∧ free (L2 p) (L0 p) (A0 p).isNone = true ∧ free (L2 p) (L1 p) (A1 p).isNone = true) ∧ wr = W.drewN j) (fun t _ => n - (intOf t).toNat)
  case atStart => exact ⟨0, 0, Nat.zero_le _, rfl, fun p hp => absurd hp (Nat.not_lt_zero _), rfl⟩
  case round =>
    obtain ⟨i, j, hin, rfl, hall, rfl⟩ := hrel
    have HA := hide hall
    clear hall
    by_cases hlt : i < n
    · have li : (i : Int) < (n : Int) := by omega
      have hli := hl i hlt
      have hI0 := hI.drewN j
      have hrj : Hid (∀ m, ∃ q, (W.drewN j).drewN m = W.drewN q) := fun m => ⟨j + m, World.drewN_drewN _ _ _⟩
      have HRj := hide (RetOk.drewN (unhide HR) j)
      generalize W.drewN j = w0 at hI0 hrj HRj ⊢
      obtain ⟨b0, o0, rfl, f0⟩ := hI0.h0.cells (by omega)
      replace f0 := f0 i hlt
      obtain ⟨b1, o1, rfl, f1⟩ := hI0.h1.cells (by omega)
      replace f1 := f1 i hlt
      obtain ⟨b2, o2, rfl, f2⟩ := hI0.h2.cells (by omega)
      replace f2 := f2 i hlt
      obtain ⟨b3, o3, rfl, f3⟩ := hI0.h3.cells (by omega)
      replace f3 := f3 i hlt
      obtain ⟨b4, o4, rfl, f4⟩ := hI0.h4.cells (by omega)
      replace f4 := f4 i hlt
      have g0 := (hI0.r0 i hlt).1
      have g1 := (hI0.r1 i hlt).1
      have g2 := (hI0.r2 i hlt).1
      have q1 : ∀ m, Calls Try.prog 12 #[.slice (A2 i) (L2 i).length (C2 i), .slice (A0 i) (L0 i).length (C0 i), .slice (A1 i) (L1 i).length (C1 i), .bool (B3 i), .bool (B4 i)] (w0.drewN m) fun e w'' => e = .returned (.bool (lets6 A0 A1 L0 L1 L2 B3 B4 i)) ∧ ∃ q, w'' = w0.drewN q := fun m => Calls.quiet_of (admits12 (A2 i) (A0 i) (A1 i) (C2 i) (C0 i) (C1 i) (L2 i) (L0 i) (L1 i) (B3 i) (B4 i) (w0.drewN m) (by omega) (by omega) (by omega) (g2.drewN m) (g0.drewN m) (g1.drewN m))
      have q2 : ∀ m, Calls Try.prog 13 #[.slice (A2 i) (L2 i).length (C2 i), .slice (A0 i) (L0 i).length (C0 i)] (w0.drewN m) fun e w'' => e = .returned (.bool (free (L2 i) (L0 i) (A0 i).isNone)) ∧ ∃ q, w'' = w0.drewN q := fun m => Calls.quiet_of (free13 (A2 i) (A0 i) (C2 i) (C0 i) (L2 i) (L0 i) (w0.drewN m) (by omega) (by omega) (g2.drewN m) (g0.drewN m))
      have q3 : ∀ m, Calls Try.prog 13 #[.slice (A2 i) (L2 i).length (C2 i), .slice (A1 i) (L1 i).length (C1 i)] (w0.drewN m) fun e w'' => e = .returned (.bool (free (L2 i) (L1 i) (A1 i).isNone)) ∧ ∃ q, w'' = w0.drewN q := fun m => Calls.quiet_of (free13 (A2 i) (A1 i) (C2 i) (C1 i) (L2 i) (L1 i) (w0.drewN m) (by omega) (by omega) (g2.drewN m) (g1.drewN m))
      clear g0 g1 g2 hI0
      cases h1 : lets6 A0 A1 L0 L1 L2 B3 B4 i
      · rw [h1] at q1
        go_wp2_with fail
        go_quiet (first | (go_at_call 12; with_reducible exact q1 _) | (go_at_call 13; with_reducible exact q2 _) | (go_at_call 13; with_reducible exact q3 _))
        go_wp2_with fail
        exact unhide HRj _ _ _ _ _ _ _ _ _ _ _ _ _ ⟨rfl, rfl, rfl, rfl, rfl, rfl, rfl, rfl, rfl, rfl, rfl, rfl, rfl, rfl⟩
      · rw [h1] at q1
        cases h2 : free (L2 i) (L0 i) (A0 i).isNone
        · rw [h2] at q2
          go_wp2_with fail
          go_quiet (first | (go_at_call 12; with_reducible exact q1 _) | (go_at_call 13; with_reducible exact q2 _) | (go_at_call 13; with_reducible exact q3 _))
          go_wp2_with fail
          exact unhide HRj _ _ _ _ _ _ _ _ _ _ _ _ _ ⟨rfl, rfl, rfl, rfl, rfl, rfl, rfl, rfl, rfl, rfl, rfl, rfl, rfl, rfl⟩
        · rw [h2] at q2
          cases h3 : free (L2 i) (L1 i) (A1 i).isNone
          · rw [h3] at q3
            go_wp2_with fail
            go_quiet (first | (go_at_call 12; with_reducible exact q1 _) | (go_at_call 13; with_reducible exact q2 _) | (go_at_call 13; with_reducible exact q3 _))
            go_wp2_with fail
            exact unhide HRj _ _ _ _ _ _ _ _ _ _ _ _ _ ⟨rfl, rfl, rfl, rfl, rfl, rfl, rfl, rfl, rfl, rfl, rfl, rfl, rfl, rfl⟩
          · rw [h3] at q3
            have H123 := hide (And.intro h1 (And.intro h2 h3))
            clear h1 h2 h3
            go_wp2_with fail
            go_quiet (first | (go_at_call 12; with_reducible exact q1 _) | (go_at_call 13; with_reducible exact q2 _) | (go_at_call 13; with_reducible exact q3 _))
            go_wp2_with fail
            go_roundw
            case rel =>
              obtain ⟨qq, hqq⟩ := unhide hrj nq
              exact ⟨i + 1, qq, hlt, by go_num, fun p hp => (by
                by_cases e : p = i
                · subst e; exact unhide H123
                · exact unhide HA p (by omega)), hqq⟩
            case measure => simp [intOf]; omega
    · have e : i = n := by omega
      subst e
      go_wp2_with fail
      exact unhide HZ _ _ _ (unhide HA) ⟨rfl, rfl, rfl, rfl, rfl, rfl, rfl, rfl, rfl, rfl, rfl, rfl, rfl, rfl⟩

end Go.Proofs.Qxb6002590a
