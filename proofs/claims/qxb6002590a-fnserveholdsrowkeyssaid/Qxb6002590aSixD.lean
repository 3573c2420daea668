import Derived.Test.Qxb6002590aSixA
namespace Go.Proofs.Qxb6002590a
open Go.RowKit Go.Own

/-- The values' and the lower ends' lengths, added up. -/
def rlOf (L0 L2 : Nat → List Int) (κ : Nat → Nat) : Nat → Nat
  | 0 => 0
  | j + 1 => rlOf L0 L2 κ j + ((L0 (κ j)).length + (L2 (κ j)).length)

theorem In6.drewN {W : World} {a0 a1 a2 a3 a4 a5 a6 : Option Addr} {n0 n1 n2 n3 n4 n5 n6 c0 c1 c2 c3 c4 c5 c6 : Nat} {A0 A1 A2 : Nat → Option Addr} {C0 C1 C2 : Nat → Nat} {L0 L1 L2 : Nat → List Int} {B3 B4 B5 : Nat → Bool} {K : Nat → Int}
    (h : In6 W a0 a1 a2 a3 a4 a5 a6 n0 n1 n2 n3 n4 n5 n6 c0 c1 c2 c3 c4 c5 c6 A0 A1 A2 C0 C1 C2 L0 L1 L2 B3 B4 B5 K) (j : Nat) : In6 (W.drewN j) a0 a1 a2 a3 a4 a5 a6 n0 n1 n2 n3 n4 n5 n6 c0 c1 c2 c3 c4 c5 c6 A0 A1 A2 C0 C1 C2 L0 L1 L2 B3 B4 B5 K :=
  ⟨h.h0.drewN j, h.h1.drewN j, h.h2.drewN j, h.h3.drewN j, h.h4.drewN j, h.h5.drewN j, h.h6.drewN j, fun i hi => ⟨(h.r0 i hi).1.drewN j, (h.r0 i hi).2⟩, fun i hi => ⟨(h.r1 i hi).1.drewN j, (h.r1 i hi).2⟩, fun i hi => ⟨(h.r2 i hi).1.drewN j, (h.r2 i hi).2⟩⟩

theorem In6.nat {W : World} {a0 a1 a2 a3 a4 a5 a6 : Option Addr} {n kn c0 c1 c2 c3 c4 c5 c6 : Nat} {A0 A1 A2 : Nat → Option Addr} {C0 C1 C2 : Nat → Nat} {L0 L1 L2 : Nat → List Int} {B3 B4 B5 : Nat → Bool} {K : Nat → Int}
    (h : In6 W a0 a1 a2 a3 a4 a5 a6 n n n n n n kn c0 c1 c2 c3 c4 c5 c6 A0 A1 A2 C0 C1 C2 L0 L1 L2 B3 B4 B5 K) (hK : ∀ q, q < kn → 0 ≤ K q ∧ K q < n) : In6 W a0 a1 a2 a3 a4 a5 a6 n n n n n n kn c0 c1 c2 c3 c4 c5 c6 A0 A1 A2 C0 C1 C2 L0 L1 L2 B3 B4 B5 (fun j => (((fun j => (K j).toNat) j : Nat) : Int)) :=
  ⟨h.h0, h.h1, h.h2, h.h3, h.h4, h.h5, h.h6.congr fun i hi => by have := hK i hi; simp only; rw [Int.toNat_of_nonneg this.1], h.r0, h.r1, h.r2⟩

theorem RetOk.drewN {Q : Exit → Act → World → Prop} {W : World} (h : RetOk Q W) (j : Nat) : RetOk Q (W.drewN j) := by
  intro a' m s0 s1 s2 s3 s4 s5 s6 s15 s16 s19 s22 hF
  rw [World.drewN_drewN]
  exact h a' _ _ _ _ _ _ _ _ _ _ _ _ hF

set_option maxHeartbeats 8000000 in
set_option maxRecDepth 100000 in
theorem six5 (a0 a1 a2 a3 a4 a5 a6 : Option Addr) (n kn c0 c1 c2 c3 c4 c5 c6 : Nat) (A0 A1 A2 : Nat → Option Addr) (C0 C1 C2 : Nat → Nat) (L0 L1 L2 : Nat → List Int) (B3 B4 B5 : Nat → Bool) (κ : Nat → Nat) (W : World) (Q : Exit → Act → World → Prop) (Z : Code) (a : Act) (s14 s16 s19 s22 : Value)
    (hI : In6 W a0 a1 a2 a3 a4 a5 a6 n n n n n n kn c0 c1 c2 c3 c4 c5 c6 A0 A1 A2 C0 C1 C2 L0 L1 L2 B3 B4 B5 (fun j => ((κ j : Nat) : Int))) (hkn : kn ≤ 4096) (hκ : ∀ q, q < kn → κ q < n) (hl : ∀ i, i < n → (L0 i).length ≤ 1048576 ∧ (L1 i).length ≤ 1048576 ∧ (L2 i).length ≤ 1048576) (hR : RetOk Q W)
    (hF : Fr6 a (.slice a0 n c0) (.slice a1 n c1) (.slice a2 n c2) (.slice a3 n c3) (.slice a4 n c4) (.slice a5 n c5) (.slice a6 kn c6) (s14) (.int .i64 (n : Nat)) (s16) (s19) (s22))
    (hZ : ∀ a' (j : Nat) s14', rlOf L0 L2 κ kn ≤ 1048576 → Fr6 a' (.slice a0 n c0) (.slice a1 n c1) (.slice a2 n c2) (.slice a3 n c3) (.slice a4 n c4) (.slice a5 n c5) (.slice a6 kn c6) (s14') (.int .i64 (n : Nat)) (s16) (.int .i64 (rlOf L0 L2 κ kn : Nat)) (s22) → Code.wp Try.prog Z Q a' (W.drewN j)) :
    Code.wp Try.prog (.seq (stm Try.f6.body 9) (.seq (stm Try.f6.body 10) Z)) Q a W := by
  have HZ := hide hZ
  have HR := hide hR
  clear hZ hR
  refine fr_open6 (fun a => Code.wp Try.prog (.seq (stm Try.f6.body 9) (.seq (stm Try.f6.body 10) Z)) Q a W) a hF ?_
  intro u7 u8 u9 u10 u11 u12 u13 u17 u18 u20 u21 u23 u24 u25 u26 u27 u28 u29 u30 u31 u32 u33 u34 u35 u36 u37 u38 u39 u40 u41 u42 u43 u44 u45 u46 u47 u48 u49 u50 u51 u52 u53 u54 u55 u56 u57 u58 u59 u60 u61 u62 u63 u64 u65 u66 u67 u68 u69 u70 u71 u72 u73 u74 u75 u76 u77 u78 u79 u80 u81 u82 u83 u84 u85 u86 u87 u88 u89 u90 u91 u92 u93 u94 u95 u96 u97 u98 u99 u100 u101 u102 u103 u104 u105 u106 u107 u108 u109 u110 u111 u112 u113 u114 u115 u116 u117 u118 u119 u120 u121 u122 u123 u124 u125 u126 u127 u128 u129 u130 u131 u132 u133 u134 u135 u136 u137 u138 u139 u140 u141 u142 u143 u144 u145 u146 u147 u148 u149 u150 u151 u152 u153 u154 u155 u156 u157 u158 u159 u160 u161 u162 u163 u164 u165 u166 u167 u168 u169 u170 u171 u172 u173 u174 u175 u176 u177 u178 u179 u180 u181 u182 u183 u184 u185 u186 u187 u188 u189 u190 u191 u192 u193 u194 u195 u196 u197 u198 u199 u200 u201 u202 u203 u204 u205 u206 u207 u208 u209 u210 u211 u212 u213 u214 u215 u216 u217 u218 u219 u220 u221 u222 u223 u224 u225 u226 u227 u228 u229 u230 u231 u232 u233 u234 u235 u236 u237 u238 u239 u240 u241 u242 u243 u244 u245 u246 u247 u248 u249 u250 u251 u252 u253 u254 u255 u256 u257 u258 u259 u260 u261 u262 u263 u264 u265 u266 u267 u268 u269 u270 u271 u272 u273 u274 u275 u276 u277 u278 u279 u280 u281 u282 u283 u284 u285 u286 u287 u288 u289 u290 u291 u292 u293 u294 u295 u296 u297 u298 u299 u300 u301 u302 u303 u304 u305 u306 u307 u308 u309 u310 u311 u312 u313 u314 u315 u316 u317 u318 u319 u320 u321 u322 u323 u324 u325 u326 u327 u328 u329 u330 u331 u332 u333 u334 u335 u336 u337 u338
  dsimp only
  conv => arg 2; arg 1; whnf
  conv => arg 2; arg 2; arg 1; whnf
  go_wp2_with fail
  go_loopw [19, 20] (fun t i wr => ∃ (q j : Nat), q ≤ kn ∧ i = .int .i64 q ∧ t = .int .i64 (rlOf L0 L2 κ q : Nat) ∧ rlOf L0 L2 κ q ≤ 1048576 ∧ wr = W.drewN j) (fun _ i _ => kn - (intOf i).toNat)
  case atStart => exact ⟨0, 0, Nat.zero_le _, rfl, rfl, Nat.zero_le _, rfl⟩
  case round =>
    obtain ⟨q, j, hq, rfl, rfl, hx, rfl⟩ := hrel
    by_cases hlt : q < kn
    · have li : (q : Int) < (kn : Int) := by omega
      have hκq := hκ q hlt
      have lk : ((κ q : Nat) : Int) < (n : Int) := by omega
      have hlq := hl _ hκq
      obtain ⟨b6, o6, rfl, f6⟩ := hI.h6.cells (by omega)
      replace f6 := f6 q hlt
      obtain ⟨b0, o0, rfl, f0⟩ := hI.h0.cells (by omega)
      replace f0 := f0 _ hκq
      obtain ⟨b2, o2, rfl, f2⟩ := hI.h2.cells (by omega)
      replace f2 := f2 _ hκq
      have hrl : rlOf L0 L2 κ (q + 1) = rlOf L0 L2 κ q + ((L0 (κ q)).length + (L2 (κ q)).length) := rfl
      have HRL := hide hrl
      generalize hrr : rlOf L0 L2 κ q = r at hx HRL
      have HRR := hide hrr
      clear hrl hrr
      by_cases g3 : (r : Int) + (((L0 (κ q)).length : Int) + ((L2 (κ q)).length : Int)) ≤ 1048576
      · have t3 : decide ((1048576 : Int) < (r : Int) + (((L0 (κ q)).length : Int) + ((L2 (κ q)).length : Int))) = false := decide_eq_false (by omega)
        go_wp2_with fail
        go_quiet (fail)
        go_wp2_with fail
        go_roundw
        case rel => exact ⟨q + 1, _, hlt, by go_num, by rw [unhide HRL]; simp, by rw [unhide HRL]; omega, by first | rfl | exact World.drewN_drewN⟩
        case measure => simp [intOf]; omega
      · have t3 : decide ((1048576 : Int) < (r : Int) + (((L0 (κ q)).length : Int) + ((L2 (κ q)).length : Int))) = true := decide_eq_true (by omega)
        go_wp2_with fail
        go_quiet (fail)
        go_wp2_with fail
        first | exact unhide HR _ _ _ _ _ _ _ _ _ _ _ _ _ ⟨rfl, rfl, rfl, rfl, rfl, rfl, rfl, rfl, rfl, rfl, rfl, rfl, rfl, rfl⟩ | (rw [World.drewN_drewN]; exact unhide HR _ _ _ _ _ _ _ _ _ _ _ _ _ ⟨rfl, rfl, rfl, rfl, rfl, rfl, rfl, rfl, rfl, rfl, rfl, rfl, rfl, rfl⟩)
    · have e : q = kn := by omega
      subst e
      have HX := hide hx
      clear hx
      generalize rlOf L0 L2 κ q = r at HX HZ ⊢
      go_wp2_with fail
      exact unhide HZ _ _ _ (unhide HX) ⟨rfl, rfl, rfl, rfl, rfl, rfl, rfl, rfl, rfl, rfl, rfl, rfl, rfl, rfl⟩

end Go.Proofs.Qxb6002590a
