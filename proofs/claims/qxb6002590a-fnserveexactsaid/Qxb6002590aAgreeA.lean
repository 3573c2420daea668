import Derived.Test.Qxb6002590aHelp
namespace Go.Proofs.Qxb6002590a
open Go.RowKit Go.Own

structure Fr10 (a : Act) (s0 s1 s2 s3 s4 s5 s6 s7 s8 s9 s18 s19 s20 s21 s22 s23 : Value) : Prop where
  size : a.tmps.size = 153
  defers : a.defers = []
  e0 : a.tmps.getD 0 undef = s0
  e1 : a.tmps.getD 1 undef = s1
  e2 : a.tmps.getD 2 undef = s2
  e3 : a.tmps.getD 3 undef = s3
  e4 : a.tmps.getD 4 undef = s4
  e5 : a.tmps.getD 5 undef = s5
  e6 : a.tmps.getD 6 undef = s6
  e7 : a.tmps.getD 7 undef = s7
  e8 : a.tmps.getD 8 undef = s8
  e9 : a.tmps.getD 9 undef = s9
  e18 : a.tmps.getD 18 undef = s18
  e19 : a.tmps.getD 19 undef = s19
  e20 : a.tmps.getD 20 undef = s20
  e21 : a.tmps.getD 21 undef = s21
  e22 : a.tmps.getD 22 undef = s22
  e23 : a.tmps.getD 23 undef = s23

set_option maxRecDepth 100000 in
theorem range_all10 (f : Nat → Value) : (List.range 153).map f = [f 0, f 1, f 2, f 3, f 4, f 5, f 6, f 7, f 8, f 9, f 10, f 11, f 12, f 13, f 14, f 15, f 16, f 17, f 18, f 19, f 20, f 21, f 22, f 23, f 24, f 25, f 26, f 27, f 28, f 29, f 30, f 31, f 32, f 33, f 34, f 35, f 36, f 37, f 38, f 39, f 40, f 41, f 42, f 43, f 44, f 45, f 46, f 47, f 48, f 49, f 50, f 51, f 52, f 53, f 54, f 55, f 56, f 57, f 58, f 59, f 60, f 61, f 62, f 63, f 64, f 65, f 66, f 67, f 68, f 69, f 70, f 71, f 72, f 73, f 74, f 75, f 76, f 77, f 78, f 79, f 80, f 81, f 82, f 83, f 84, f 85, f 86, f 87, f 88, f 89, f 90, f 91, f 92, f 93, f 94, f 95, f 96, f 97, f 98, f 99, f 100, f 101, f 102, f 103, f 104, f 105, f 106, f 107, f 108, f 109, f 110, f 111, f 112, f 113, f 114, f 115, f 116, f 117, f 118, f 119, f 120, f 121, f 122, f 123, f 124, f 125, f 126, f 127, f 128, f 129, f 130, f 131, f 132, f 133, f 134, f 135, f 136, f 137, f 138, f 139, f 140, f 141, f 142, f 143, f 144, f 145, f 146, f 147, f 148, f 149, f 150, f 151, f 152] := rfl

set_option maxRecDepth 100000 in
set_option maxHeartbeats 4000000 in
theorem fr_open10 {s0 s1 s2 s3 s4 s5 s6 s7 s8 s9 s18 s19 s20 s21 s22 s23 : Value} (P : Act → Prop) (a : Act) (h : Fr10 a s0 s1 s2 s3 s4 s5 s6 s7 s8 s9 s18 s19 s20 s21 s22 s23) (H : ∀ u10 u11 u12 u13 u14 u15 u16 u17 u24 u25 u26 u27 u28 u29 u30 u31 u32 u33 u34 u35 u36 u37 u38 u39 u40 u41 u42 u43 u44 u45 u46 u47 u48 u49 u50 u51 u52 u53 u54 u55 u56 u57 u58 u59 u60 u61 u62 u63 u64 u65 u66 u67 u68 u69 u70 u71 u72 u73 u74 u75 u76 u77 u78 u79 u80 u81 u82 u83 u84 u85 u86 u87 u88 u89 u90 u91 u92 u93 u94 u95 u96 u97 u98 u99 u100 u101 u102 u103 u104 u105 u106 u107 u108 u109 u110 u111 u112 u113 u114 u115 u116 u117 u118 u119 u120 u121 u122 u123 u124 u125 u126 u127 u128 u129 u130 u131 u132 u133 u134 u135 u136 u137 u138 u139 u140 u141 u142 u143 u144 u145 u146 u147 u148 u149 u150 u151 u152 : Value, P ⟨#[s0, s1, s2, s3, s4, s5, s6, s7, s8, s9, u10, u11, u12, u13, u14, u15, u16, u17, s18, s19, s20, s21, s22, s23, u24, u25, u26, u27, u28, u29, u30, u31, u32, u33, u34, u35, u36, u37, u38, u39, u40, u41, u42, u43, u44, u45, u46, u47, u48, u49, u50, u51, u52, u53, u54, u55, u56, u57, u58, u59, u60, u61, u62, u63, u64, u65, u66, u67, u68, u69, u70, u71, u72, u73, u74, u75, u76, u77, u78, u79, u80, u81, u82, u83, u84, u85, u86, u87, u88, u89, u90, u91, u92, u93, u94, u95, u96, u97, u98, u99, u100, u101, u102, u103, u104, u105, u106, u107, u108, u109, u110, u111, u112, u113, u114, u115, u116, u117, u118, u119, u120, u121, u122, u123, u124, u125, u126, u127, u128, u129, u130, u131, u132, u133, u134, u135, u136, u137, u138, u139, u140, u141, u142, u143, u144, u145, u146, u147, u148, u149, u150, u151, u152], []⟩) : P a := by
  obtain ⟨⟨l⟩, d⟩ := a
  have hs : l.length = 153 := h.size
  have hd : d = [] := h.defers
  subst hd
  have e0 : l.getD 0 undef = s0 := by simpa using h.e0
  have e1 : l.getD 1 undef = s1 := by simpa using h.e1
  have e2 : l.getD 2 undef = s2 := by simpa using h.e2
  have e3 : l.getD 3 undef = s3 := by simpa using h.e3
  have e4 : l.getD 4 undef = s4 := by simpa using h.e4
  have e5 : l.getD 5 undef = s5 := by simpa using h.e5
  have e6 : l.getD 6 undef = s6 := by simpa using h.e6
  have e7 : l.getD 7 undef = s7 := by simpa using h.e7
  have e8 : l.getD 8 undef = s8 := by simpa using h.e8
  have e9 : l.getD 9 undef = s9 := by simpa using h.e9
  have e18 : l.getD 18 undef = s18 := by simpa using h.e18
  have e19 : l.getD 19 undef = s19 := by simpa using h.e19
  have e20 : l.getD 20 undef = s20 := by simpa using h.e20
  have e21 : l.getD 21 undef = s21 := by simpa using h.e21
  have e22 : l.getD 22 undef = s22 := by simpa using h.e22
  have e23 : l.getD 23 undef = s23 := by simpa using h.e23
  subst e0 e1 e2 e3 e4 e5 e6 e7 e8 e9 e18 e19 e20 e21 e22 e23
  have e := (list_all l _ hs).trans (range_all10 _)
  have := H (l.getD 10 undef) (l.getD 11 undef) (l.getD 12 undef) (l.getD 13 undef) (l.getD 14 undef) (l.getD 15 undef) (l.getD 16 undef) (l.getD 17 undef) (l.getD 24 undef) (l.getD 25 undef) (l.getD 26 undef) (l.getD 27 undef) (l.getD 28 undef) (l.getD 29 undef) (l.getD 30 undef) (l.getD 31 undef) (l.getD 32 undef) (l.getD 33 undef) (l.getD 34 undef) (l.getD 35 undef) (l.getD 36 undef) (l.getD 37 undef) (l.getD 38 undef) (l.getD 39 undef) (l.getD 40 undef) (l.getD 41 undef) (l.getD 42 undef) (l.getD 43 undef) (l.getD 44 undef) (l.getD 45 undef) (l.getD 46 undef) (l.getD 47 undef) (l.getD 48 undef) (l.getD 49 undef) (l.getD 50 undef) (l.getD 51 undef) (l.getD 52 undef) (l.getD 53 undef) (l.getD 54 undef) (l.getD 55 undef) (l.getD 56 undef) (l.getD 57 undef) (l.getD 58 undef) (l.getD 59 undef) (l.getD 60 undef) (l.getD 61 undef) (l.getD 62 undef) (l.getD 63 undef) (l.getD 64 undef) (l.getD 65 undef) (l.getD 66 undef) (l.getD 67 undef) (l.getD 68 undef) (l.getD 69 undef) (l.getD 70 undef) (l.getD 71 undef) (l.getD 72 undef) (l.getD 73 undef) (l.getD 74 undef) (l.getD 75 undef) (l.getD 76 undef) (l.getD 77 undef) (l.getD 78 undef) (l.getD 79 undef) (l.getD 80 undef) (l.getD 81 undef) (l.getD 82 undef) (l.getD 83 undef) (l.getD 84 undef) (l.getD 85 undef) (l.getD 86 undef) (l.getD 87 undef) (l.getD 88 undef) (l.getD 89 undef) (l.getD 90 undef) (l.getD 91 undef) (l.getD 92 undef) (l.getD 93 undef) (l.getD 94 undef) (l.getD 95 undef) (l.getD 96 undef) (l.getD 97 undef) (l.getD 98 undef) (l.getD 99 undef) (l.getD 100 undef) (l.getD 101 undef) (l.getD 102 undef) (l.getD 103 undef) (l.getD 104 undef) (l.getD 105 undef) (l.getD 106 undef) (l.getD 107 undef) (l.getD 108 undef) (l.getD 109 undef) (l.getD 110 undef) (l.getD 111 undef) (l.getD 112 undef) (l.getD 113 undef) (l.getD 114 undef) (l.getD 115 undef) (l.getD 116 undef) (l.getD 117 undef) (l.getD 118 undef) (l.getD 119 undef) (l.getD 120 undef) (l.getD 121 undef) (l.getD 122 undef) (l.getD 123 undef) (l.getD 124 undef) (l.getD 125 undef) (l.getD 126 undef) (l.getD 127 undef) (l.getD 128 undef) (l.getD 129 undef) (l.getD 130 undef) (l.getD 131 undef) (l.getD 132 undef) (l.getD 133 undef) (l.getD 134 undef) (l.getD 135 undef) (l.getD 136 undef) (l.getD 137 undef) (l.getD 138 undef) (l.getD 139 undef) (l.getD 140 undef) (l.getD 141 undef) (l.getD 142 undef) (l.getD 143 undef) (l.getD 144 undef) (l.getD 145 undef) (l.getD 146 undef) (l.getD 147 undef) (l.getD 148 undef) (l.getD 149 undef) (l.getD 150 undef) (l.getD 151 undef) (l.getD 152 undef)
  exact (congrArg (fun x => P ⟨⟨x⟩, []⟩) e).mpr this

/-- The lower end is exclusive; the upper one. -/
def ex1 (s : Sp) : Bool := !s.la.isNone && s.le
def ex2 (s : Sp) : Bool := !s.ha.isNone && s.he

theorem lowOf_plain {po : Bool} {pfx : List Int} {s : Sp} (h1 : ex1 s = false) : lowOf po pfx s = some (if (s.la.isNone && po) = true then Option.none else some (pfx ++ s.lo)) := by
  unfold lowOf
  unfold ex1 at h1
  rw [h1]
  cases s.la.isNone <;> cases po <;> simp

theorem upOf_plain {pfx : List Int} {s : Sp} (hn : s.ha = Option.none → s.hi = []) : upOf pfx.isEmpty pfx s = if ex2 s = true then some (pfx ++ s.hi) else aft (pfx ++ s.hi) := by
  unfold upOf ex2
  by_cases h1 : (!s.ha.isNone && s.he) = true
  · rw [if_pos h1, if_pos h1]
  · rw [if_neg h1, if_neg h1]
    by_cases h2 : (!s.ha.isNone || !pfx.isEmpty) = true
    · rw [if_pos h2]
    · rw [if_neg h2]
      simp only [Bool.or_eq_true, Bool.not_eq_true', not_or, Bool.not_eq_false] at h2
      obtain ⟨h3, h4⟩ := h2
      have e1 : s.ha = Option.none := by simpa using h3
      have e2 : pfx = [] := by simpa using h4
      rw [hn e1, e2]
      rfl

def inLow (s : Sp) (pfx k : List Int) : Bool := if ex1 s = true then (decide (0 < cmp k (pfx ++ s.lo)) && !pre (pfx ++ s.lo) k) else decide (0 ≤ cmp k (pfx ++ s.lo))
def inHigh (s : Sp) (pfx k : List Int) : Bool := if ex2 s = true then decide (cmp k (pfx ++ s.hi) < 0) else (decide (cmp k (pfx ++ s.hi) ≤ 0) || pre (pfx ++ s.hi) k)

theorem low_agrees {pfx k : List Int} {s : Sp} {low : Option (List Int)} (hn : s.la = Option.none → s.lo = []) (h : lowOf pfx.isEmpty pfx s = some low) (hp : U8 pfx) (hl : U8 s.lo) (hk : U8 k) : overLow low k = inLow s pfx k := by
  unfold inLow
  cases he : ex1 s
  · rw [lowOf_plain he] at h
    cases h
    rw [if_neg (show ¬ (false = true) by decide)]
    by_cases h1 : (s.la.isNone && pfx.isEmpty) = true
    · rw [if_pos h1]
      simp only [Bool.and_eq_true] at h1
      have e1 : s.la = Option.none := by simpa using h1.1
      have e2 : pfx = [] := by simpa using h1.2
      rw [hn e1, e2]
      have := cmp_nil_right k
      simp [overLow, this]
    · rw [if_neg h1]
      rfl
  · rw [if_pos rfl]
    unfold lowOf at h
    unfold ex1 at he
    rw [if_pos he] at h
    cases hA : aft (pfx ++ s.lo) with
    | none => rw [hA] at h; cases h
    | some r =>
      rw [hA] at h
      cases h
      have hl := aft_law (pfx ++ s.lo) k r hA (u8_append hp hl) hk
      simp only [overLow]
      by_cases hc : cmp k r < 0
      · rw [decide_eq_false (by omega)]
        rcases hl.1 hc with h1 | h1
        · rw [decide_eq_false (by omega)]; rfl
        · rw [h1]; simp
      · rw [decide_eq_true (by omega)]
        have h1 : ¬ cmp k (pfx ++ s.lo) ≤ 0 := fun h => hc (hl.2 (.inl h))
        have h2 : pre (pfx ++ s.lo) k = false := by
          cases hp : pre (pfx ++ s.lo) k
          · rfl
          · exact absurd (hl.2 (.inr hp)) hc
        rw [decide_eq_true (by omega), h2]
        rfl

theorem up_agrees {pfx k : List Int} {s : Sp} (hn : s.ha = Option.none → s.hi = []) (hp : U8 pfx) (hh : U8 s.hi) (hk : U8 k) : underUp (upOf pfx.isEmpty pfx s) k = inHigh s pfx k := by
  rw [upOf_plain hn]
  unfold inHigh
  cases he : ex2 s
  · rw [if_neg (by decide), if_neg (by decide)]
    cases hA : aft (pfx ++ s.hi) with
    | none =>
      rcases under_all (pfx ++ s.hi) k (aft_none hA) hk with h | h
      · simp [underUp, h]
      · simp [underUp, h]
    | some r =>
      have hl := aft_law (pfx ++ s.hi) k r hA (u8_append hp hh) hk
      simp only [underUp]
      by_cases hc : cmp k r < 0
      · rw [decide_eq_true hc]
        rcases hl.1 hc with h | h
        · simp [h]
        · simp [h]
      · rw [decide_eq_false hc]
        have h1 : ¬ cmp k (pfx ++ s.hi) ≤ 0 := fun h => hc (hl.2 (.inl h))
        have h2 : pre (pfx ++ s.hi) k = false := by
          cases hp : pre (pfx ++ s.hi) k
          · rfl
          · exact absurd (hl.2 (.inr hp)) hc
        rw [decide_eq_false h1, h2]
        rfl
  · rw [if_pos rfl, if_pos rfl]
    rfl

set_option maxHeartbeats 8000000 in
set_option maxRecDepth 100000 in
theorem agree0 (s : Sp) (ok po : Bool) (pa ka : Option Addr) (pc kc : Nat) (pfx k : List Int) (L U : Option Addr) (w : World) (Q : Exit → Act → World → Prop) (Z : Code) (a : Act) (s9 s18 s19 s20 s21 s22 s23 : Value)
    (hs : s.ok w) (hp : BytesAt w pa pc pfx) (l1 : pfx.length ≤ 2097152) (l2 : s.lo.length ≤ 2097152) (l3 : s.hi.length ≤ 2097152)
    (hF : Fr10 a (.agg #[.pointer L, .pointer U, .bool false, .int .i64 0]) (.bool ok) (.slice pa pfx.length pc) (.bool po) (.slice s.la s.lo.length s.lc) (.slice s.ha s.hi.length s.hc) (.bool s.le) (.bool s.he) (.slice ka k.length kc) (s9) (s18) (s19) (s20) (s21) (s22) (s23))
    (hZ : ∀ a' w' pla pha plc phc P1 P2, P1 = pfx ++ s.lo → P2 = pfx ++ s.hi → Below w.heap.size w w' → RngAt w' w.heap.size L U → BytesAt w' pla plc P1 → BytesAt w' pha phc P2 → Fr10 a' (.agg #[.pointer L, .pointer U, .bool false, .int .i64 0]) (.bool ok) (.slice pa pfx.length pc) (.bool po) (.slice s.la s.lo.length s.lc) (.slice s.ha s.hi.length s.hc) (.bool s.le) (.bool s.he) (.slice ka k.length kc) (.pointer (some ⟨w.heap.size, 0, Option.none⟩)) (.bool false) (.slice pla P1.length plc) (.slice pha P2.length phc) (s21) (s22) (s23) → Code.wp Try.prog Z Q a' w') :
    Code.wp Try.prog (.seq (stm Try.f10.body 0) (.seq (stm Try.f10.body 1) (.seq (stm Try.f10.body 2) Z))) Q a w := by
  have HZ := hide hZ
  have hb : Below w.heap.size w (w.alloc (.cells #[.pointer L, .pointer U, .bool false, .int .i64 0] 27)) := (Below.refl _ _).alloc (Nat.le_refl _) _
  have hr : RngAt (w.alloc (.cells #[.pointer L, .pointer U, .bool false, .int .i64 0] 27)) w.heap.size L U := World.rowIs_alloc w _ 27 _ fun i hi => by
    have : i = 0 ∨ i = 1 ∨ i = 2 ∨ i = 3 := by simp at hi; omega
    rcases this with rfl | rfl | rfl | rfl <;> rfl
  have hc1 := cat15 pa s.la pc s.lc pfx s.lo _ (hp.below hb) (hs.1.below hb) l1 l2
  clear hZ
  refine fr_open10 (fun a => Code.wp Try.prog (.seq (stm Try.f10.body 0) (.seq (stm Try.f10.body 1) (.seq (stm Try.f10.body 2) Z))) Q a w) a hF ?_
  intro u10 u11 u12 u13 u14 u15 u16 u17 u24 u25 u26 u27 u28 u29 u30 u31 u32 u33 u34 u35 u36 u37 u38 u39 u40 u41 u42 u43 u44 u45 u46 u47 u48 u49 u50 u51 u52 u53 u54 u55 u56 u57 u58 u59 u60 u61 u62 u63 u64 u65 u66 u67 u68 u69 u70 u71 u72 u73 u74 u75 u76 u77 u78 u79 u80 u81 u82 u83 u84 u85 u86 u87 u88 u89 u90 u91 u92 u93 u94 u95 u96 u97 u98 u99 u100 u101 u102 u103 u104 u105 u106 u107 u108 u109 u110 u111 u112 u113 u114 u115 u116 u117 u118 u119 u120 u121 u122 u123 u124 u125 u126 u127 u128 u129 u130 u131 u132 u133 u134 u135 u136 u137 u138 u139 u140 u141 u142 u143 u144 u145 u146 u147 u148 u149 u150 u151 u152
  dsimp only
  conv => arg 2; arg 1; whnf
  conv => arg 2; arg 2; arg 1; whnf
  conv => arg 2; arg 2; arg 2; arg 1; whnf
  go_wp2_with fail
  refine hc1.mono ?_
  rintro e w1 ⟨pla, plc, rfl, hpl, hb1⟩
  have hc2 := cat15 pa s.ha pc s.hc pfx s.hi w1 ((hp.below hb).below hb1) ((hs.2.1.below hb).below hb1) l1 l3
  have HPL := hide hpl
  clear hc1 hpl
  go_wp2_with fail
  refine hc2.mono ?_
  rintro e w2 ⟨pha, phc, rfl, hph, hb2⟩
  have HPH := hide hph
  clear hc2 hph
  go_wp2_with fail
  refine unhide HZ _ _ pla pha plc phc _ _ rfl rfl (below_step (below_step hb hb1) hb2) ((hr.below hb1).below hb2) ((unhide HPL).below hb2) (unhide HPH) ⟨rfl, rfl, rfl, rfl, rfl, rfl, rfl, rfl, rfl, rfl, rfl, rfl, rfl, ?_, ?_, rfl, rfl, rfl⟩
  · simp
  · simp

end Go.Proofs.Qxb6002590a
