import Derived.Test.Qxb6002590aSixF
namespace Go.Proofs.Qxb6002590a
open Go.RowKit Go.Own

/-- The values at the key's columns, joined. -/
def rowOf (L2 : Nat → List Int) (κ : Nat → Nat) : Nat → List Int
  | 0 => []
  | q + 1 => rowOf L2 κ q ++ L2 (κ q)

theorem rowOf_le (L0 L2 : Nat → List Int) (κ : Nat → Nat) : ∀ q, (rowOf L2 κ q).length ≤ rlOf L0 L2 κ q
  | 0 => Nat.le_refl _
  | q + 1 => by
    have := rowOf_le L0 L2 κ q
    simp only [rowOf, rlOf, List.length_append]
    omega

theorem rlOf_le (L0 L2 : Nat → List Int) (κ : Nat → Nat) {j q : Nat} (h : j ≤ q) : rlOf L0 L2 κ j ≤ rlOf L0 L2 κ q := by
  induction q with
  | zero => have : j = 0 := by omega
            subst this; exact Nat.le_refl _
  | succ q ih =>
    by_cases e : j = q + 1
    · subst e; exact Nat.le_refl _
    · have := ih (by omega)
      simp only [rlOf]
      omega

theorem run_make_row (m : Nat) (h : m ≤ 1048576) (w : World) : (Instr.makeSlice 22 (.int .i64 0) (.int .i64 (m : Int))).run Try.prog w = .ok (.slice (some ⟨w.heap.size, 0, Option.none⟩) 0 m) (w.alloc (.cells (madeCells #[.int .u8 0] m) 5)) := by
  obtain ⟨i, hi, hz, hs, hb⟩ := info_parts Try.info5
  have hr := run_make (P := Try.prog) w 22 5 i _ Try.underlying22 hi hz .i64 .i64 0 m (by omega) (by omega) (by rw [hb]; omega) (by omega)
  simp only [Int.toNat_natCast, hs, Nat.mul_one] at hr
  exact hr

set_option maxHeartbeats 8000000 in
set_option maxRecDepth 100000 in
theorem six8 (a0 a1 a2 a3 a4 a5 a6 : Option Addr) (n kn c0 c1 c2 c3 c4 c5 c6 : Nat) (A0 A1 A2 : Nat → Option Addr) (C0 C1 C2 : Nat → Nat) (L0 L1 L2 : Nat → List Int) (B3 B4 B5 : Nat → Bool) (κ : Nat → Nat) (w : World) (Q : Exit → Act → World → Prop) (Z : Code) (a : Act) (r : Nat) (s14 s16 s22 : Value)
    (hI : In6 w a0 a1 a2 a3 a4 a5 a6 n n n n n n kn c0 c1 c2 c3 c4 c5 c6 A0 A1 A2 C0 C1 C2 L0 L1 L2 B3 B4 B5 (fun j => ((κ j : Nat) : Int))) (hκ : ∀ q, q < kn → κ q < n) (hn : n ≤ 4096) (hkn : kn ≤ 4096) (hr : r = rlOf L0 L2 κ kn) (hr1 : r ≤ 1048576)
    (hF : Fr6 a (.slice a0 n c0) (.slice a1 n c1) (.slice a2 n c2) (.slice a3 n c3) (.slice a4 n c4) (.slice a5 n c5) (.slice a6 kn c6) (s14) (.int .i64 (n : Nat)) (s16) (.int .i64 (r : Nat)) (s22))
    (hZ : ∀ a' w' v, Below w.heap.size w w' → OwnB w' w.heap.size v (rowOf L2 κ kn) → Fr6 a' (.slice a0 n c0) (.slice a1 n c1) (.slice a2 n c2) (.slice a3 n c3) (.slice a4 n c4) (.slice a5 n c5) (.slice a6 kn c6) (s14) (.int .i64 (n : Nat)) (s16) (.int .i64 (r : Nat)) (v) → Code.wp Try.prog Z Q a' w') :
    Code.wp Try.prog (.seq (stm Try.f6.body 19) (.seq (stm Try.f6.body 20) Z)) Q a w := by
  have HZ := hide hZ
  have hmk := run_make_row r hr1
  have h0 : OwnB (w.alloc (.cells (madeCells #[.int .u8 0] r) 5)) w.heap.size (.slice (some ⟨w.heap.size, 0, Option.none⟩) 0 r) [] := World.ownsRow_made w _ r (Nat.le_refl _) (by simp only [maxLen]; omega) (by rw [size_madeCells]; omega)
  have H0 := hide h0
  have HRr := hide hr
  clear hZ h0 hr
  refine fr_open6 (fun a => Code.wp Try.prog (.seq (stm Try.f6.body 19) (.seq (stm Try.f6.body 20) Z)) Q a w) a hF ?_
  intro u7 u8 u9 u10 u11 u12 u13 u17 u18 u20 u21 u23 u24 u25 u26 u27 u28 u29 u30 u31 u32 u33 u34 u35 u36 u37 u38 u39 u40 u41 u42 u43 u44 u45 u46 u47 u48 u49 u50 u51 u52 u53 u54 u55 u56 u57 u58 u59 u60 u61 u62 u63 u64 u65 u66 u67 u68 u69 u70 u71 u72 u73 u74 u75 u76 u77 u78 u79 u80 u81 u82 u83 u84 u85 u86 u87 u88 u89 u90 u91 u92 u93 u94 u95 u96 u97 u98 u99 u100 u101 u102 u103 u104 u105 u106 u107 u108 u109 u110 u111 u112 u113 u114 u115 u116 u117 u118 u119 u120 u121 u122 u123 u124 u125 u126 u127 u128 u129 u130 u131 u132 u133 u134 u135 u136 u137 u138 u139 u140 u141 u142 u143 u144 u145 u146 u147 u148 u149 u150 u151 u152 u153 u154 u155 u156 u157 u158 u159 u160 u161 u162 u163 u164 u165 u166 u167 u168 u169 u170 u171 u172 u173 u174 u175 u176 u177 u178 u179 u180 u181 u182 u183 u184 u185 u186 u187 u188 u189 u190 u191 u192 u193 u194 u195 u196 u197 u198 u199 u200 u201 u202 u203 u204 u205 u206 u207 u208 u209 u210 u211 u212 u213 u214 u215 u216 u217 u218 u219 u220 u221 u222 u223 u224 u225 u226 u227 u228 u229 u230 u231 u232 u233 u234 u235 u236 u237 u238 u239 u240 u241 u242 u243 u244 u245 u246 u247 u248 u249 u250 u251 u252 u253 u254 u255 u256 u257 u258 u259 u260 u261 u262 u263 u264 u265 u266 u267 u268 u269 u270 u271 u272 u273 u274 u275 u276 u277 u278 u279 u280 u281 u282 u283 u284 u285 u286 u287 u288 u289 u290 u291 u292 u293 u294 u295 u296 u297 u298 u299 u300 u301 u302 u303 u304 u305 u306 u307 u308 u309 u310 u311 u312 u313 u314 u315 u316 u317 u318 u319 u320 u321 u322 u323 u324 u325 u326 u327 u328 u329 u330 u331 u332 u333 u334 u335 u336 u337 u338
  dsimp only
  conv => arg 2; arg 1; whnf
  conv => arg 2; arg 2; arg 1; whnf
  go_wp2_with fail
  go_loopw [22, 23] (fun v i wr => ∃ q : Nat, q ≤ kn ∧ i = .int .i64 q ∧ Below w.heap.size w wr ∧ OwnB wr w.heap.size v (rowOf L2 κ q)) (fun _ i _ => kn - (intOf i).toNat)
  case atStart => exact ⟨0, Nat.zero_le _, rfl, (Below.refl _ _).alloc (Nat.le_refl _) _, unhide H0⟩
  case round =>
    obtain ⟨q, hq, rfl, hbr, ho⟩ := hrel
    by_cases hlt : q < kn
    · have li : (q : Int) < (kn : Int) := by omega
      have hκq := hκ q hlt
      have lk : ((κ q : Nat) : Int) < (n : Int) := by omega
      obtain ⟨b6, o6, rfl, f6⟩ := hI.h6.cells (by omega)
      replace f6 := cell_below hbr (f6 q hlt)
      obtain ⟨b2, o2, rfl, f2⟩ := hI.h2.cells (by omega)
      replace f2 := cell_below hbr (f2 _ hκq)
      have g2 := (hI.r2 _ hκq).1
      generalize A2 (κ q) = aq at f2 g2
      have hle := rowOf_le L0 L2 κ (q + 1)
      have hle2 := rlOf_le L0 L2 κ (show q + 1 ≤ kn from hlt)
      have hlen : (rowOf L2 κ q).length + (L2 (κ q)).length ≤ 1048576 := by
        have := unhide HRr
        simp only [rowOf, List.length_append] at hle
        omega
      have HO := hide ho
      clear ho hmk hle hle2
      go_wp2_with fail
      go_loopw [22, 25] (fun v i wr => ∃ t : Nat, t ≤ (L2 (κ q)).length ∧ i = .int .i64 t ∧ Below w.heap.size w wr ∧ OwnB wr w.heap.size v (rowOf L2 κ q ++ (L2 (κ q)).take t)) (fun _ i _ => (L2 (κ q)).length - (intOf i).toNat)
      case atStart => exact ⟨0, Nat.zero_le _, rfl, hbr, by simpa using unhide HO⟩
      case round =>
        obtain ⟨t, ht, rfl, hbr', ho⟩ := hrel
        by_cases hlt' : t < (L2 (κ q)).length
        · have li' : (t : Int) < ((L2 (κ q)).length : Int) := by omega
          obtain ⟨b, off, rfl, hcs⟩ := g2.cells (by omega)
          have hck := cell_below hbr' (hcs t hlt')
          simp only [By] at hck
          have e1 : (L2 (κ q)).take (t + 1) = (L2 (κ q)).take t ++ [(L2 (κ q)).getD t 0] := by
            rw [List.take_add_one, List.getD_eq_getElem?_getD, List.getElem?_eq_getElem hlt']
            rfl
          have HE := hide e1
          generalize (L2 (κ q)).getD t 0 = x at hck HE
          have hbx : Below wr.heap.size wr (wr.alloc (.cells #[.int .u8 x] 5)) := (Below.refl _ _).alloc (Nat.le_refl _) _
          have hxs : BytesAt (wr.alloc (.cells #[.int .u8 x] 5)) (some ⟨wr.heap.size, 0, Option.none⟩) 1 [x] := ⟨Nat.le_refl _, fun e => (by cases e), fun _ => ⟨wr.heap.size, 0, rfl, fun p hp => (by
            have : p = 0 := by simp at hp; exact hp
            subst this
            exact cell_new _ _ _ 0 rfl)⟩⟩
          obtain ⟨v', w', hr, g3, g4, -, -⟩ := append_bytes 22 (World.ownsRow.alloc ho (.cells #[.int .u8 x] 5)) (Nat.le_trans hbr'.size hbx.size) hxs (by simp; omega)
          have hown := fun k e => (World.ownsRow.lt ho k e).1
          have HW := hide hown
          have HG3 := hide g3
          have HG4 := hide g4
          simp only [List.length_cons, List.length_nil, Nat.zero_add] at hr
          clear ho hcs hown g3 g4 e1 hxs
          go_wp2_with (at_builtin; refine Lib.wpList_append_run _ rfl _ _ _ _ rfl _ _ rfl rfl _ _ hr ?_)
          go_roundw
          case rel =>
            refine ⟨t + 1, hlt', by go_num, ?_, ?_⟩
            · exact (below_step hbr' hbx).trans (grown_below (unhide HG4) (Nat.le_trans hbr'.size hbx.size) (unhide HW))
            · rw [unhide HE, ← List.append_assoc]
              exact unhide HG3
          case measure => simp [intOf]; omega
        · have e : t = (L2 (κ q)).length := by omega
          subst e
          have HO' := hide ho
          clear ho
          go_wp2_with fail
          go_roundw
          case rel => exact ⟨q + 1, hlt, by go_num, hbr', by simpa [rowOf] using unhide HO'⟩
          case measure => simp [intOf]; omega
    · have e : q = kn := by omega
      subst e
      have HO := hide ho
      clear ho hmk
      go_wp2_with fail
      exact unhide HZ _ _ _ hbr (unhide HO) ⟨rfl, rfl, rfl, rfl, rfl, rfl, rfl, rfl, rfl, rfl, rfl, rfl, rfl, rfl⟩

end Go.Proofs.Qxb6002590a
