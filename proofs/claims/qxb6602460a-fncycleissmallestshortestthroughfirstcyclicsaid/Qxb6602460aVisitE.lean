import Derived.Test.Qxb6602460aVisitC
namespace Go.Proofs.Qxb6602460a
open Go.RowKit Go.Maps Go.Own

variable {H n v : Nat} {F : Value} {na oa : Option Addr} {nc oc : Nat} {s : TS} {w : World} {Q : Exit → Act → World → Prop} {a : Act} {s12 s14 s103 s104 s105 : Value} {A : Option Addr} {N C k x i m : Nat}

theorem OwnI.take {w : World} {base : Nat} {a : Option Addr} {c : Nat} {xs : List Nat} (h : OwnI w base (.slice a xs.length c) xs) {i : Nat} (hi : i ≤ xs.length) : OwnI w base (.slice a i c) (xs.take i) := by
  have hl : (xs.take i).length = i := by simp; omega
  obtain ⟨_, h2⟩ := h
  refine ⟨by simp [iv], ?_⟩
  rw [hl]
  rcases h2 with ⟨h0, h1⟩ | ⟨g, cap, cur, hv, hg, hh, hn, hcap, hsz, htake⟩
  · obtain rfl : i = 0 := by omega
    simp only [Value.slice.injEq] at h0
    rw [h0.1, h0.2.2]
    exact .inl ⟨rfl, rfl⟩
  · cases hv
    refine .inr ⟨g, c, cur, rfl, hg, hh, by omega, hcap, hsz, ?_⟩
    have h3 : (cur.toList.take (xs.length * 1)).take (i * 1) = (iv xs).take (i * 1) := by rw [htake]
    rw [List.take_take, Nat.min_eq_left (by omega)] at h3
    rw [h3]
    simp [iv]

/-- The stack as a slice's cells. -/
theorem VS.stack (h : VS w H n F na oa nc oc s) : ∃ A C, w.rowIs (H + 9) 22 1 (fun _ => .slice A s.stk.length C) ∧ OwnI w (H + 12) (.slice A s.stk.length C) s.stk ∧ s.stk.length ≤ C ∧ (0 < s.stk.length → ∃ b, A = some ⟨b, 0, Option.none⟩ ∧ H + 12 ≤ b ∧ ∀ i, i < s.stk.length → w.cell? ⟨b, i, Option.none⟩ = some (.int .i64 (s.stk.getD i 0 : Nat))) := by
  obtain ⟨v, h1, h2⟩ := h.bk
  obtain ⟨A, C, rfl, _, h3, h4⟩ := h2.form
  refine ⟨A, C, h1, h2, h4.cap, fun hp => ?_⟩
  obtain ⟨b, off, rfl, h5⟩ := h4.cells hp
  obtain ⟨h6, rfl⟩ := h3 b off rfl
  exact ⟨b, rfl, h6, fun i hi => by have := h5 i hi; rwa [Nat.zero_add] at this⟩

structure Fr41d (a : Act) (s0 s1 s2 s3 s4 s5 s6 s7 s8 s12 s14 s103 s104 s105 : Value) : Prop where
  size : a.tmps.size = 124
  defers : a.defers = []
  e0 : a.tmps.getD 0 undef = s0
  e1 : a.tmps.getD 1 undef = s1
  e2 : a.tmps.getD 2 undef = s2
  e3 : a.tmps.getD 3 undef = s3
  e4 : a.tmps.getD 4 undef = s4
  e5 : a.tmps.getD 5 undef = s5
  e6 : a.tmps.getD 6 undef = s6
  e7 : a.tmps.getD 7 undef = s7
  e8 : a.tmps.getD 8 undef = s8
  e12 : a.tmps.getD 12 undef = s12
  e14 : a.tmps.getD 14 undef = s14
  e103 : a.tmps.getD 103 undef = s103
  e104 : a.tmps.getD 104 undef = s104
  e105 : a.tmps.getD 105 undef = s105

set_option maxRecDepth 100000 in
theorem range_all41d (f : Nat → Value) : (List.range 124).map f = [f 0, f 1, f 2, f 3, f 4, f 5, f 6, f 7, f 8, f 9, f 10, f 11, f 12, f 13, f 14, f 15, f 16, f 17, f 18, f 19, f 20, f 21, f 22, f 23, f 24, f 25, f 26, f 27, f 28, f 29, f 30, f 31, f 32, f 33, f 34, f 35, f 36, f 37, f 38, f 39, f 40, f 41, f 42, f 43, f 44, f 45, f 46, f 47, f 48, f 49, f 50, f 51, f 52, f 53, f 54, f 55, f 56, f 57, f 58, f 59, f 60, f 61, f 62, f 63, f 64, f 65, f 66, f 67, f 68, f 69, f 70, f 71, f 72, f 73, f 74, f 75, f 76, f 77, f 78, f 79, f 80, f 81, f 82, f 83, f 84, f 85, f 86, f 87, f 88, f 89, f 90, f 91, f 92, f 93, f 94, f 95, f 96, f 97, f 98, f 99, f 100, f 101, f 102, f 103, f 104, f 105, f 106, f 107, f 108, f 109, f 110, f 111, f 112, f 113, f 114, f 115, f 116, f 117, f 118, f 119, f 120, f 121, f 122, f 123] := rfl

set_option maxRecDepth 100000 in
set_option maxHeartbeats 4000000 in
theorem fr_open41d {s0 s1 s2 s3 s4 s5 s6 s7 s8 s12 s14 s103 s104 s105 : Value} (P : Act → Prop) (a : Act) (h : Fr41d a s0 s1 s2 s3 s4 s5 s6 s7 s8 s12 s14 s103 s104 s105) (H : ∀ u9 u10 u11 u13 u15 u16 u17 u18 u19 u20 u21 u22 u23 u24 u25 u26 u27 u28 u29 u30 u31 u32 u33 u34 u35 u36 u37 u38 u39 u40 u41 u42 u43 u44 u45 u46 u47 u48 u49 u50 u51 u52 u53 u54 u55 u56 u57 u58 u59 u60 u61 u62 u63 u64 u65 u66 u67 u68 u69 u70 u71 u72 u73 u74 u75 u76 u77 u78 u79 u80 u81 u82 u83 u84 u85 u86 u87 u88 u89 u90 u91 u92 u93 u94 u95 u96 u97 u98 u99 u100 u101 u102 u106 u107 u108 u109 u110 u111 u112 u113 u114 u115 u116 u117 u118 u119 u120 u121 u122 u123 : Value, P ⟨#[s0, s1, s2, s3, s4, s5, s6, s7, s8, u9, u10, u11, s12, u13, s14, u15, u16, u17, u18, u19, u20, u21, u22, u23, u24, u25, u26, u27, u28, u29, u30, u31, u32, u33, u34, u35, u36, u37, u38, u39, u40, u41, u42, u43, u44, u45, u46, u47, u48, u49, u50, u51, u52, u53, u54, u55, u56, u57, u58, u59, u60, u61, u62, u63, u64, u65, u66, u67, u68, u69, u70, u71, u72, u73, u74, u75, u76, u77, u78, u79, u80, u81, u82, u83, u84, u85, u86, u87, u88, u89, u90, u91, u92, u93, u94, u95, u96, u97, u98, u99, u100, u101, u102, s103, s104, s105, u106, u107, u108, u109, u110, u111, u112, u113, u114, u115, u116, u117, u118, u119, u120, u121, u122, u123], []⟩) : P a := by
  obtain ⟨⟨l⟩, d⟩ := a
  have hs : l.length = 124 := h.size
  have hd : d = [] := h.defers
  subst hd
  have e0 : l.getD 0 undef = s0 := by simpa using h.e0
  have e1 : l.getD 1 undef = s1 := by simpa using h.e1
  have e2 : l.getD 2 undef = s2 := by simpa using h.e2
  have e3 : l.getD 3 undef = s3 := by simpa using h.e3
  have e4 : l.getD 4 undef = s4 := by simpa using h.e4
  have e5 : l.getD 5 undef = s5 := by simpa using h.e5
  have e6 : l.getD 6 undef = s6 := by simpa using h.e6
  have e7 : l.getD 7 undef = s7 := by simpa using h.e7
  have e8 : l.getD 8 undef = s8 := by simpa using h.e8
  have e12 : l.getD 12 undef = s12 := by simpa using h.e12
  have e14 : l.getD 14 undef = s14 := by simpa using h.e14
  have e103 : l.getD 103 undef = s103 := by simpa using h.e103
  have e104 : l.getD 104 undef = s104 := by simpa using h.e104
  have e105 : l.getD 105 undef = s105 := by simpa using h.e105
  subst e0 e1 e2 e3 e4 e5 e6 e7 e8 e12 e14 e103 e104 e105
  have e := (list_all l _ hs).trans (range_all41d _)
  have := H (l.getD 9 undef) (l.getD 10 undef) (l.getD 11 undef) (l.getD 13 undef) (l.getD 15 undef) (l.getD 16 undef) (l.getD 17 undef) (l.getD 18 undef) (l.getD 19 undef) (l.getD 20 undef) (l.getD 21 undef) (l.getD 22 undef) (l.getD 23 undef) (l.getD 24 undef) (l.getD 25 undef) (l.getD 26 undef) (l.getD 27 undef) (l.getD 28 undef) (l.getD 29 undef) (l.getD 30 undef) (l.getD 31 undef) (l.getD 32 undef) (l.getD 33 undef) (l.getD 34 undef) (l.getD 35 undef) (l.getD 36 undef) (l.getD 37 undef) (l.getD 38 undef) (l.getD 39 undef) (l.getD 40 undef) (l.getD 41 undef) (l.getD 42 undef) (l.getD 43 undef) (l.getD 44 undef) (l.getD 45 undef) (l.getD 46 undef) (l.getD 47 undef) (l.getD 48 undef) (l.getD 49 undef) (l.getD 50 undef) (l.getD 51 undef) (l.getD 52 undef) (l.getD 53 undef) (l.getD 54 undef) (l.getD 55 undef) (l.getD 56 undef) (l.getD 57 undef) (l.getD 58 undef) (l.getD 59 undef) (l.getD 60 undef) (l.getD 61 undef) (l.getD 62 undef) (l.getD 63 undef) (l.getD 64 undef) (l.getD 65 undef) (l.getD 66 undef) (l.getD 67 undef) (l.getD 68 undef) (l.getD 69 undef) (l.getD 70 undef) (l.getD 71 undef) (l.getD 72 undef) (l.getD 73 undef) (l.getD 74 undef) (l.getD 75 undef) (l.getD 76 undef) (l.getD 77 undef) (l.getD 78 undef) (l.getD 79 undef) (l.getD 80 undef) (l.getD 81 undef) (l.getD 82 undef) (l.getD 83 undef) (l.getD 84 undef) (l.getD 85 undef) (l.getD 86 undef) (l.getD 87 undef) (l.getD 88 undef) (l.getD 89 undef) (l.getD 90 undef) (l.getD 91 undef) (l.getD 92 undef) (l.getD 93 undef) (l.getD 94 undef) (l.getD 95 undef) (l.getD 96 undef) (l.getD 97 undef) (l.getD 98 undef) (l.getD 99 undef) (l.getD 100 undef) (l.getD 101 undef) (l.getD 102 undef) (l.getD 106 undef) (l.getD 107 undef) (l.getD 108 undef) (l.getD 109 undef) (l.getD 110 undef) (l.getD 111 undef) (l.getD 112 undef) (l.getD 113 undef) (l.getD 114 undef) (l.getD 115 undef) (l.getD 116 undef) (l.getD 117 undef) (l.getD 118 undef) (l.getD 119 undef) (l.getD 120 undef) (l.getD 121 undef) (l.getD 122 undef) (l.getD 123 undef)
  exact (congrArg (fun x => P ⟨⟨x⟩, []⟩) e).mpr this

set_option maxHeartbeats 8000000 in
set_option maxRecDepth 100000 in
theorem v5 (h : VS w H n F na oa nc oc s) (hv : v < n)
    (hF : Fr41 a (.int .i64 (v : Nat)) (.pointer (some ⟨H + 10, 0, Option.none⟩)) (.pointer (some ⟨H + 2, 0, Option.none⟩)) (.pointer (some ⟨H + 4, 0, Option.none⟩)) (.pointer (some ⟨H + 9, 0, Option.none⟩)) (.pointer (some ⟨H + 6, 0, Option.none⟩)) (.pointer (some ⟨H, 0, Option.none⟩)) (.pointer (some ⟨H + 11, 0, Option.none⟩)) (.pointer (some ⟨H + 8, 0, Option.none⟩)) (s12))
    (h1 : s.low v ≠ s.ord v → ∀ a' j, Fr41 a' (.int .i64 (v : Nat)) (.pointer (some ⟨H + 10, 0, Option.none⟩)) (.pointer (some ⟨H + 2, 0, Option.none⟩)) (.pointer (some ⟨H + 4, 0, Option.none⟩)) (.pointer (some ⟨H + 9, 0, Option.none⟩)) (.pointer (some ⟨H + 6, 0, Option.none⟩)) (.pointer (some ⟨H, 0, Option.none⟩)) (.pointer (some ⟨H + 11, 0, Option.none⟩)) (.pointer (some ⟨H + 8, 0, Option.none⟩)) (s12) → Q .ret a' (w.drewN j))
    (h2 : s.low v = s.ord v → ∀ a' j, Fr41 a' (.int .i64 (v : Nat)) (.pointer (some ⟨H + 10, 0, Option.none⟩)) (.pointer (some ⟨H + 2, 0, Option.none⟩)) (.pointer (some ⟨H + 4, 0, Option.none⟩)) (.pointer (some ⟨H + 9, 0, Option.none⟩)) (.pointer (some ⟨H + 6, 0, Option.none⟩)) (.pointer (some ⟨H, 0, Option.none⟩)) (.pointer (some ⟨H + 11, 0, Option.none⟩)) (.pointer (some ⟨H + 8, 0, Option.none⟩)) (s12) → Q .normal a' (w.drewN j)) :
    Code.wp Try.prog (stm Try.f41.body 5) Q a w := by
  have c1 := h.bl.cell (i := 0) (by omega)
  have c2 := h.bo.cell (i := 0) (by omega)
  have d1 := h.rl.cell (i := v) hv
  have d2 := h.ro.cell (i := v) hv
  have lv : (v : Int) < (n : Int) := by omega
  clear h
  by_cases hc : s.low v = s.ord v
  · have HZ := hide (h2 hc)
    rw [hc] at d1
    clear h1 h2 hc
    refine fr_open41 (fun a => Code.wp Try.prog (stm Try.f41.body 5) Q a w) a hF ?_
    intro u9 u10 u11 u13 u14 u15 u16 u17 u18 u19 u20 u21 u22 u23 u24 u25 u26 u27 u28 u29 u30 u31 u32 u33 u34 u35 u36 u37 u38 u39 u40 u41 u42 u43 u44 u45 u46 u47 u48 u49 u50 u51 u52 u53 u54 u55 u56 u57 u58 u59 u60 u61 u62 u63 u64 u65 u66 u67 u68 u69 u70 u71 u72 u73 u74 u75 u76 u77 u78 u79 u80 u81 u82 u83 u84 u85 u86 u87 u88 u89 u90 u91 u92 u93 u94 u95 u96 u97 u98 u99 u100 u101 u102 u103 u104 u105 u106 u107 u108 u109 u110 u111 u112 u113 u114 u115 u116 u117 u118 u119 u120 u121 u122 u123
    dsimp only
    conv => arg 2; whnf
    go_wp2_with fail
    go_quiet (fail)
    all_goals go_wp2_with fail
    exact unhide HZ _ _ ⟨rfl, rfl, rfl, rfl, rfl, rfl, rfl, rfl, rfl, rfl, rfl, rfl⟩
  · have HZ := hide (h1 hc)
    have t1 : ¬ ((s.low v : Nat) : Int) = ((s.ord v : Nat) : Int) := by omega
    clear h1 h2 hc
    refine fr_open41 (fun a => Code.wp Try.prog (stm Try.f41.body 5) Q a w) a hF ?_
    intro u9 u10 u11 u13 u14 u15 u16 u17 u18 u19 u20 u21 u22 u23 u24 u25 u26 u27 u28 u29 u30 u31 u32 u33 u34 u35 u36 u37 u38 u39 u40 u41 u42 u43 u44 u45 u46 u47 u48 u49 u50 u51 u52 u53 u54 u55 u56 u57 u58 u59 u60 u61 u62 u63 u64 u65 u66 u67 u68 u69 u70 u71 u72 u73 u74 u75 u76 u77 u78 u79 u80 u81 u82 u83 u84 u85 u86 u87 u88 u89 u90 u91 u92 u93 u94 u95 u96 u97 u98 u99 u100 u101 u102 u103 u104 u105 u106 u107 u108 u109 u110 u111 u112 u113 u114 u115 u116 u117 u118 u119 u120 u121 u122 u123
    dsimp only
    conv => arg 2; whnf
    go_wp2_with fail
    go_quiet (fail)
    all_goals go_wp2_with fail
    exact unhide HZ _ _ ⟨rfl, rfl, rfl, rfl, rfl, rfl, rfl, rfl, rfl, rfl, rfl, rfl⟩

set_option maxHeartbeats 8000000 in
set_option maxRecDepth 100000 in
theorem v6 (h : VS w H n F na oa nc oc s) (hl : s.stk.length = m + 1) (hm : m ≤ 65536)
    (hF : Fr41 a (.int .i64 (v : Nat)) (.pointer (some ⟨H + 10, 0, Option.none⟩)) (.pointer (some ⟨H + 2, 0, Option.none⟩)) (.pointer (some ⟨H + 4, 0, Option.none⟩)) (.pointer (some ⟨H + 9, 0, Option.none⟩)) (.pointer (some ⟨H + 6, 0, Option.none⟩)) (.pointer (some ⟨H, 0, Option.none⟩)) (.pointer (some ⟨H + 11, 0, Option.none⟩)) (.pointer (some ⟨H + 8, 0, Option.none⟩)) (s12))
    (hZ : ∀ a', Fr41 a' (.int .i64 (v : Nat)) (.pointer (some ⟨H + 10, 0, Option.none⟩)) (.pointer (some ⟨H + 2, 0, Option.none⟩)) (.pointer (some ⟨H + 4, 0, Option.none⟩)) (.pointer (some ⟨H + 9, 0, Option.none⟩)) (.pointer (some ⟨H + 6, 0, Option.none⟩)) (.pointer (some ⟨H, 0, Option.none⟩)) (.pointer (some ⟨H + 11, 0, Option.none⟩)) (.pointer (some ⟨H + 8, 0, Option.none⟩)) (.int .i64 (m : Nat)) → Q .normal a' w) :
    Code.wp Try.prog (stm Try.f41.body 6) Q a w := by
  obtain ⟨A, C, hr, -, -, -⟩ := h.stack
  rw [hl] at hr
  have c1 := hr.cell (i := 0) (by omega)
  have HZ := hide hZ
  clear h hr hZ hl
  refine fr_open41 (fun a => Code.wp Try.prog (stm Try.f41.body 6) Q a w) a hF ?_
  intro u9 u10 u11 u13 u14 u15 u16 u17 u18 u19 u20 u21 u22 u23 u24 u25 u26 u27 u28 u29 u30 u31 u32 u33 u34 u35 u36 u37 u38 u39 u40 u41 u42 u43 u44 u45 u46 u47 u48 u49 u50 u51 u52 u53 u54 u55 u56 u57 u58 u59 u60 u61 u62 u63 u64 u65 u66 u67 u68 u69 u70 u71 u72 u73 u74 u75 u76 u77 u78 u79 u80 u81 u82 u83 u84 u85 u86 u87 u88 u89 u90 u91 u92 u93 u94 u95 u96 u97 u98 u99 u100 u101 u102 u103 u104 u105 u106 u107 u108 u109 u110 u111 u112 u113 u114 u115 u116 u117 u118 u119 u120 u121 u122 u123
  dsimp only
  conv => arg 2; whnf
  go_wp2_with fail
  exact unhide HZ _ ⟨rfl, rfl, rfl, rfl, rfl, rfl, rfl, rfl, rfl, rfl, rfl, rfl⟩

set_option maxHeartbeats 8000000 in
set_option maxRecDepth 100000 in
theorem v7a (h : VS w H n F na oa nc oc s) (hi : i < s.stk.length)
    (hF : Fr41 a (.int .i64 (v : Nat)) (.pointer (some ⟨H + 10, 0, Option.none⟩)) (.pointer (some ⟨H + 2, 0, Option.none⟩)) (.pointer (some ⟨H + 4, 0, Option.none⟩)) (.pointer (some ⟨H + 9, 0, Option.none⟩)) (.pointer (some ⟨H + 6, 0, Option.none⟩)) (.pointer (some ⟨H, 0, Option.none⟩)) (.pointer (some ⟨H + 11, 0, Option.none⟩)) (.pointer (some ⟨H + 8, 0, Option.none⟩)) (.int .i64 (i : Nat)))
    (h1 : s.stk.getD i 0 ≠ v → ∀ a', Fr41 a' (.int .i64 (v : Nat)) (.pointer (some ⟨H + 10, 0, Option.none⟩)) (.pointer (some ⟨H + 2, 0, Option.none⟩)) (.pointer (some ⟨H + 4, 0, Option.none⟩)) (.pointer (some ⟨H + 9, 0, Option.none⟩)) (.pointer (some ⟨H + 6, 0, Option.none⟩)) (.pointer (some ⟨H, 0, Option.none⟩)) (.pointer (some ⟨H + 11, 0, Option.none⟩)) (.pointer (some ⟨H + 8, 0, Option.none⟩)) (.int .i64 (i : Nat)) → Q .normal a' w)
    (h2 : s.stk.getD i 0 = v → ∀ a', Fr41 a' (.int .i64 (v : Nat)) (.pointer (some ⟨H + 10, 0, Option.none⟩)) (.pointer (some ⟨H + 2, 0, Option.none⟩)) (.pointer (some ⟨H + 4, 0, Option.none⟩)) (.pointer (some ⟨H + 9, 0, Option.none⟩)) (.pointer (some ⟨H + 6, 0, Option.none⟩)) (.pointer (some ⟨H, 0, Option.none⟩)) (.pointer (some ⟨H + 11, 0, Option.none⟩)) (.pointer (some ⟨H + 8, 0, Option.none⟩)) (.int .i64 (i : Nat)) → Q (.exit 3) a' w) :
    Code.wp Try.prog (headC (innerC (innerC (stm Try.f41.body 7)))) Q a w := by
  obtain ⟨A, C, hr, -, -, hc⟩ := h.stack
  obtain ⟨b, rfl, -, hc⟩ := hc (by omega)
  replace hc := hc i hi
  have c1 := hr.cell (i := 0) (by omega)
  have li : (i : Int) < (s.stk.length : Int) := by omega
  clear h hr
  by_cases hx : s.stk.getD i 0 = v
  · have HZ := hide (h2 hx)
    rw [hx] at hc
    clear h1 h2 hx
    refine fr_open41 (fun a => Code.wp Try.prog (headC (innerC (innerC (stm Try.f41.body 7)))) Q a w) a hF ?_
    intro u9 u10 u11 u13 u14 u15 u16 u17 u18 u19 u20 u21 u22 u23 u24 u25 u26 u27 u28 u29 u30 u31 u32 u33 u34 u35 u36 u37 u38 u39 u40 u41 u42 u43 u44 u45 u46 u47 u48 u49 u50 u51 u52 u53 u54 u55 u56 u57 u58 u59 u60 u61 u62 u63 u64 u65 u66 u67 u68 u69 u70 u71 u72 u73 u74 u75 u76 u77 u78 u79 u80 u81 u82 u83 u84 u85 u86 u87 u88 u89 u90 u91 u92 u93 u94 u95 u96 u97 u98 u99 u100 u101 u102 u103 u104 u105 u106 u107 u108 u109 u110 u111 u112 u113 u114 u115 u116 u117 u118 u119 u120 u121 u122 u123
    dsimp only
    conv => arg 2; whnf
    go_wp2_with fail
    exact unhide HZ _ ⟨rfl, rfl, rfl, rfl, rfl, rfl, rfl, rfl, rfl, rfl, rfl, rfl⟩
  · have HZ := hide (h1 hx)
    have t1 : ¬ ((s.stk.getD i 0 : Nat) : Int) = (v : Int) := by omega
    generalize s.stk.getD i 0 = y at t1 hc
    clear h1 h2 hx
    refine fr_open41 (fun a => Code.wp Try.prog (headC (innerC (innerC (stm Try.f41.body 7)))) Q a w) a hF ?_
    intro u9 u10 u11 u13 u14 u15 u16 u17 u18 u19 u20 u21 u22 u23 u24 u25 u26 u27 u28 u29 u30 u31 u32 u33 u34 u35 u36 u37 u38 u39 u40 u41 u42 u43 u44 u45 u46 u47 u48 u49 u50 u51 u52 u53 u54 u55 u56 u57 u58 u59 u60 u61 u62 u63 u64 u65 u66 u67 u68 u69 u70 u71 u72 u73 u74 u75 u76 u77 u78 u79 u80 u81 u82 u83 u84 u85 u86 u87 u88 u89 u90 u91 u92 u93 u94 u95 u96 u97 u98 u99 u100 u101 u102 u103 u104 u105 u106 u107 u108 u109 u110 u111 u112 u113 u114 u115 u116 u117 u118 u119 u120 u121 u122 u123
    dsimp only
    conv => arg 2; whnf
    go_wp2_with fail
    exact unhide HZ _ ⟨rfl, rfl, rfl, rfl, rfl, rfl, rfl, rfl, rfl, rfl, rfl, rfl⟩

set_option maxHeartbeats 8000000 in
set_option maxRecDepth 100000 in
theorem v7b (hi : i ≤ 65536)
    (hF : Fr41 a (.int .i64 (v : Nat)) (.pointer (some ⟨H + 10, 0, Option.none⟩)) (.pointer (some ⟨H + 2, 0, Option.none⟩)) (.pointer (some ⟨H + 4, 0, Option.none⟩)) (.pointer (some ⟨H + 9, 0, Option.none⟩)) (.pointer (some ⟨H + 6, 0, Option.none⟩)) (.pointer (some ⟨H, 0, Option.none⟩)) (.pointer (some ⟨H + 11, 0, Option.none⟩)) (.pointer (some ⟨H + 8, 0, Option.none⟩)) (.int .i64 ((i + 1 : Nat) : Int)))
    (hZ : ∀ a', Fr41 a' (.int .i64 (v : Nat)) (.pointer (some ⟨H + 10, 0, Option.none⟩)) (.pointer (some ⟨H + 2, 0, Option.none⟩)) (.pointer (some ⟨H + 4, 0, Option.none⟩)) (.pointer (some ⟨H + 9, 0, Option.none⟩)) (.pointer (some ⟨H + 6, 0, Option.none⟩)) (.pointer (some ⟨H, 0, Option.none⟩)) (.pointer (some ⟨H + 11, 0, Option.none⟩)) (.pointer (some ⟨H + 8, 0, Option.none⟩)) (.int .i64 (i : Nat)) → Q .normal a' w) :
    Code.wp Try.prog (innerC (tailC (innerC (innerC (stm Try.f41.body 7))))) Q a w := by
  have HZ := hide hZ
  clear hZ
  refine fr_open41 (fun a => Code.wp Try.prog (innerC (tailC (innerC (innerC (stm Try.f41.body 7))))) Q a w) a hF ?_
  intro u9 u10 u11 u13 u14 u15 u16 u17 u18 u19 u20 u21 u22 u23 u24 u25 u26 u27 u28 u29 u30 u31 u32 u33 u34 u35 u36 u37 u38 u39 u40 u41 u42 u43 u44 u45 u46 u47 u48 u49 u50 u51 u52 u53 u54 u55 u56 u57 u58 u59 u60 u61 u62 u63 u64 u65 u66 u67 u68 u69 u70 u71 u72 u73 u74 u75 u76 u77 u78 u79 u80 u81 u82 u83 u84 u85 u86 u87 u88 u89 u90 u91 u92 u93 u94 u95 u96 u97 u98 u99 u100 u101 u102 u103 u104 u105 u106 u107 u108 u109 u110 u111 u112 u113 u114 u115 u116 u117 u118 u119 u120 u121 u122 u123
  dsimp only
  conv => arg 2; whnf
  go_wp2_with fail
  exact unhide HZ _ ⟨rfl, rfl, rfl, rfl, rfl, rfl, rfl, rfl, rfl, rfl, rfl, rfl⟩

end Go.Proofs.Qxb6602460a
