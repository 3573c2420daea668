import Derived.Test.Qxb6002590aPlainSix
namespace Go.Proofs.Qxb6002590a
open Go.RowKit Go.Own

theorem aft_len : ∀ {p r : List Int}, aft p = some r → r.length ≤ p.length
  | [], r, h => by simp [aft] at h
  | x :: xs, r, h => by
    simp only [aft] at h
    split at h
    · rename_i r' hr
      cases h
      have := aft_len hr
      simp; omega
    · split at h
      · cases h
      · cases h; simp

theorem low_len {b : Bool} {p : List Int} {s : Sp} {low : Option (List Int)} (h : lowOf b p s = some low) : upLen low ≤ p.length + s.lo.length := by
  unfold lowOf at h
  split at h
  · cases hA : aft (p ++ s.lo) with
    | none => rw [hA] at h; cases h
    | some r =>
      rw [hA] at h
      cases h
      have := aft_len hA
      simpa [upLen] using this
  · split at h
    · cases h; simp [upLen]
    · cases h; simp [upLen]

theorem up_len (b : Bool) (p : List Int) (s : Sp) : upLen (upOf b p s) ≤ p.length + s.hi.length := by
  unfold upOf
  split
  · simp [upLen]
  · split
    · cases hA : aft (p ++ s.hi) with
      | none => simp [upLen]
      | some r =>
        have := aft_len hA
        simpa [upLen] using this
    · simp [upLen]

theorem pfx_rl (S : Nat → Sp) (L2 : Nat → List Int) (κ : Nat → Nat) : ∀ q, (pfxOf S κ q).length ≤ rlOf (fun i => (S i).lo) L2 κ q
  | 0 => Nat.le_refl _
  | q + 1 => by
    have := pfx_rl S L2 κ q
    simp only [pfxOf, rlOf, List.length_append]
    omega

theorem bytes_nil {w : World} {a : Option Addr} {c : Nat} {xs : List Int} (h : BytesAt w a c xs) (e : a = Option.none) : xs = [] := by
  have h1 := h.nil e
  have h2 := h.cap
  exact List.length_eq_zero_iff.1 (by omega)

set_option maxHeartbeats 8000000 in
set_option maxRecDepth 100000 in
theorem six10 (a0 a1 a2 a3 a4 a5 a6 : Option Addr) (n kn c0 c1 c2 c3 c4 c5 c6 : Nat) (A0 A1 A2 : Nat → Option Addr) (C0 C1 C2 : Nat → Nat) (L0 L1 L2 : Nat → List Int) (B3 B4 B5 : Nat → Bool) (κ : Nat → Nat) (W w : World) (Q : Exit → Act → World → Prop) (a : Act) (va : Option Addr) (vc : Nat) (s14 s16 s19 : Value)
    (hI : In6 w a0 a1 a2 a3 a4 a5 a6 n n n n n n kn c0 c1 c2 c3 c4 c5 c6 A0 A1 A2 C0 C1 C2 L0 L1 L2 B3 B4 B5 (fun j => ((κ j : Nat) : Int))) (hκ : ∀ q, q < kn → κ q < n) (hn : n ≤ 4096) (hkn : kn ≤ 4096) (hl : ∀ i, i < n → (L0 i).length ≤ 1048576 ∧ (L1 i).length ≤ 1048576 ∧ (L2 i).length ≤ 1048576) (hrl : rlOf L0 L2 κ kn ≤ 1048576)
    (hg : ∀ i, i < n → lets6 A0 A1 L0 L1 L2 B3 B4 i = true ∧ free (L2 i) (L0 i) (A0 i).isNone = true ∧ free (L2 i) (L1 i) (A1 i).isNone = true)
    (hb : Below W.heap.size W w) (hrow : BytesAt w va vc (rowOf L2 κ kn))
    (hF : Fr6 a (.slice a0 n c0) (.slice a1 n c1) (.slice a2 n c2) (.slice a3 n c3) (.slice a4 n c4) (.slice a5 n c5) (.slice a6 kn c6) (s14) (.int .i64 (n : Nat)) (s16) (s19) (.slice va (rowOf L2 κ kn).length vc))
    (hQ : ∀ a' w' (s0 s1 s2 s3 s4 s5 s6 s15 s16 s19 s22 : Value), Fr6 a' s0 s1 s2 s3 s4 s5 s6 (.bool true) s15 s16 s19 s22 → Below W.heap.size W w' → Q .ret a' w') :
    Code.wp Try.prog (rst Try.f6.body 21) Q a w := by
  have hC : Cols w n (fun i => ⟨A0 i, C0 i, L0 i, A1 i, C1 i, L1 i, B3 i, B4 i, B5 i⟩ : Nat → Sp) a0 a1 a3 a4 a5 c0 c1 c3 c4 c5 := ⟨hI.h0, hI.h1, hI.h3, hI.h4, hI.h5, fun i hi => ⟨(hI.r0 i hi).1, (hI.r1 i hi).1, (hI.r0 i hi).2, (hI.r1 i hi).2⟩, fun i hi => ⟨(hl i hi).1, (hl i hi).2.1⟩⟩
  have hpl : ∀ q, IsEq (fun i => ⟨A0 i, C0 i, L0 i, A1 i, C1 i, L1 i, B3 i, B4 i, B5 i⟩ : Nat → Sp) κ kn q → (pfxOf (fun i => ⟨A0 i, C0 i, L0 i, A1 i, C1 i, L1 i, B3 i, B4 i, B5 i⟩ : Nat → Sp) κ q).length ≤ 1048576 := fun q hq => Nat.le_trans (pfx_rl (fun i => ⟨A0 i, C0 i, L0 i, A1 i, C1 i, L1 i, B3 i, B4 i, B5 i⟩ : Nat → Sp) L2 κ q) (Nat.le_trans (rlOf_le L0 L2 κ hq.1) hrl)
  have hG : Good n kn (fun i => ⟨A0 i, C0 i, L0 i, A1 i, C1 i, L1 i, B3 i, B4 i, B5 i⟩ : Nat → Sp) L2 κ := ⟨hκ, fun i hi => (hg i hi).1, fun i hi => (hg i hi).2.1, fun i hi => (hg i hi).2.2, fun i hi e => bytes_nil (hI.r0 i hi).1 e, fun i hi e => bytes_nil (hI.r1 i hi).1 e, fun i hi => ⟨(hI.r0 i hi).2, (hI.r1 i hi).2, (hI.r2 i hi).2⟩⟩
  have hlen : (rowOf L2 κ kn).length ≤ 1048576 := Nat.le_trans (rowOf_le L0 L2 κ kn) hrl
  have hsv := zserve21 n kn c6 (fun i => ⟨A0 i, C0 i, L0 i, A1 i, C1 i, L1 i, B3 i, B4 i, B5 i⟩ : Nat → Sp) κ a0 a1 a3 a4 a5 a6 c0 c1 c3 c4 c5 w hC hI.h6 hκ (by omega) (by omega) hpl
  have hnl : ∀ q, IsEq (fun i => ⟨A0 i, C0 i, L0 i, A1 i, C1 i, L1 i, B3 i, B4 i, B5 i⟩ : Nat → Sp) κ kn q → (nextOf (fun i => ⟨A0 i, C0 i, L0 i, A1 i, C1 i, L1 i, B3 i, B4 i, B5 i⟩ : Nat → Sp) κ kn q).lo.length ≤ 1048576 ∧ (nextOf (fun i => ⟨A0 i, C0 i, L0 i, A1 i, C1 i, L1 i, B3 i, B4 i, B5 i⟩ : Nat → Sp) κ kn q).hi.length ≤ 1048576 := fun q hq => by
    unfold nextOf
    split
    · rename_i h
      have := hl _ (hκ q h)
      exact ⟨this.1, this.2.1⟩
    · simp [zeroSp]
  generalize (fun i => ⟨A0 i, C0 i, L0 i, A1 i, C1 i, L1 i, B3 i, B4 i, B5 i⟩ : Nat → Sp) = S at hsv hG hpl hnl
  have HQ := hide hQ
  have hnn := nnil38
  have hpn := ptr_nil
  have HG := hide hG
  have HPL := hide hpl
  have HNL := hide hnl
  clear hQ hC hG hpl hnl hg hl hκ
  refine fr_open6 (fun a => Code.wp Try.prog (rst Try.f6.body 21) Q a w) a hF ?_
  intro u7 u8 u9 u10 u11 u12 u13 u17 u18 u20 u21 u23 u24 u25 u26 u27 u28 u29 u30 u31 u32 u33 u34 u35 u36 u37 u38 u39 u40 u41 u42 u43 u44 u45 u46 u47 u48 u49 u50 u51 u52 u53 u54 u55 u56 u57 u58 u59 u60 u61 u62 u63 u64 u65 u66 u67 u68 u69 u70 u71 u72 u73 u74 u75 u76 u77 u78 u79 u80 u81 u82 u83 u84 u85 u86 u87 u88 u89 u90 u91 u92 u93 u94 u95 u96 u97 u98 u99 u100 u101 u102 u103 u104 u105 u106 u107 u108 u109 u110 u111 u112 u113 u114 u115 u116 u117 u118 u119 u120 u121 u122 u123 u124 u125 u126 u127 u128 u129 u130 u131 u132 u133 u134 u135 u136 u137 u138 u139 u140 u141 u142 u143 u144 u145 u146 u147 u148 u149 u150 u151 u152 u153 u154 u155 u156 u157 u158 u159 u160 u161 u162 u163 u164 u165 u166 u167 u168 u169 u170 u171 u172 u173 u174 u175 u176 u177 u178 u179 u180 u181 u182 u183 u184 u185 u186 u187 u188 u189 u190 u191 u192 u193 u194 u195 u196 u197 u198 u199 u200 u201 u202 u203 u204 u205 u206 u207 u208 u209 u210 u211 u212 u213 u214 u215 u216 u217 u218 u219 u220 u221 u222 u223 u224 u225 u226 u227 u228 u229 u230 u231 u232 u233 u234 u235 u236 u237 u238 u239 u240 u241 u242 u243 u244 u245 u246 u247 u248 u249 u250 u251 u252 u253 u254 u255 u256 u257 u258 u259 u260 u261 u262 u263 u264 u265 u266 u267 u268 u269 u270 u271 u272 u273 u274 u275 u276 u277 u278 u279 u280 u281 u282 u283 u284 u285 u286 u287 u288 u289 u290 u291 u292 u293 u294 u295 u296 u297 u298 u299 u300 u301 u302 u303 u304 u305 u306 u307 u308 u309 u310 u311 u312 u313 u314 u315 u316 u317 u318 u319 u320 u321 u322 u323 u324 u325 u326 u327 u328 u329 u330 u331 u332 u333 u334 u335 u336 u337 u338
  dsimp only
  conv => arg 2; whnf
  go_wp2_with fail
  refine hsv.mono ?_
  rintro e w1 ⟨hb1, q, hq, ⟨hun, v, rfl, ho⟩ | ⟨-, L, U, ok, rfl, hS⟩⟩
  · obtain ⟨ad, c, rfl, h1, -, -⟩ := ho.isNil
    obtain ⟨ad, rfl⟩ : ∃ x, ad = some x := by cases ad with
      | none => exact absurd (h1 rfl) hun
      | some x => exact ⟨x, rfl⟩
    clear h1 hsv hun ho hq
    go_wp2_with fail
    exact unhide HQ _ _ _ _ _ _ _ _ _ _ _ _ _ ⟨rfl, rfl, rfl, rfl, rfl, rfl, rfl, rfl, rfl, rfl, rfl, rfl, rfl, rfl⟩ (below_step hb (below_step hb1 ((Below.refl _ _).alloc (Nat.le_refl _) _)))
  · obtain ⟨low, hlow, hov, hund⟩ := row_holds (unhide HG) hq
    rcases hS with ⟨h1, -⟩ | ⟨low', h1, rfl, hL, hU⟩
    · rw [hlow] at h1; cases h1
    · rw [hlow] at h1
      cases h1
      have hb2 : Below w1.heap.size w1 (w1.alloc (.cells #[.pointer L, .pointer U, .bool false, .int .i64 0] 27)) := (Below.refl _ _).alloc (Nat.le_refl _) _
      have l1 := low_len hlow
      have l2 := up_len (pfxOf S κ q).isEmpty (pfxOf S κ q) (nextOf S κ kn q)
      have l3 := unhide HPL q hq
      have l4 := unhide HNL q hq
      have hin := inRange14 L U w.heap.size low _ va vc (rowOf L2 κ kn) _ (hL.below hb2) (hU.below hb2) ((hrow.below hb1).below hb2) (by omega) (by omega) (by omega)
      rw [hov, hund] at hin
      generalize rowOf L2 κ kn = row at hin hrow hlen ⊢
      clear hsv hL hU hlow hov hund l1 l2 l3 l4 hq
      go_wp2_with fail
      refine hin.mono ?_
      rintro e w3 ⟨rfl, hb3⟩
      go_wp2_with fail
      exact unhide HQ _ _ _ _ _ _ _ _ _ _ _ _ _ ⟨rfl, rfl, rfl, rfl, rfl, rfl, rfl, rfl, rfl, rfl, rfl, rfl, rfl, rfl⟩ (below_step hb (below_step (below_step hb1 hb2) hb3))

end Go.Proofs.Qxb6002590a
