import Derived.Test.Qxb6602460aVisitE
namespace Go.Proofs.Qxb6602460a
open Go.RowKit Go.Maps Go.Own

variable {H n v : Nat} {F : Value} {na oa : Option Addr} {nc oc : Nat} {s : TS} {w : World} {Q : Exit → Act → World → Prop} {a : Act} {s12 s14 s103 s104 s105 : Value} {A : Option Addr} {N C k x i m : Nat}

set_option maxHeartbeats 8000000 in
set_option maxRecDepth 100000 in
theorem v8 {b : Nat} (hr : w.rowIs (H + 9) 22 1 (fun _ => .slice (some ⟨b, 0, Option.none⟩) (i + m) C)) (hC : i + m ≤ C) (hm : 0 < m)
    (hF : Fr41d a (.int .i64 (v : Nat)) (.pointer (some ⟨H + 10, 0, Option.none⟩)) (.pointer (some ⟨H + 2, 0, Option.none⟩)) (.pointer (some ⟨H + 4, 0, Option.none⟩)) (.pointer (some ⟨H + 9, 0, Option.none⟩)) (.pointer (some ⟨H + 6, 0, Option.none⟩)) (.pointer (some ⟨H, 0, Option.none⟩)) (.pointer (some ⟨H + 11, 0, Option.none⟩)) (.pointer (some ⟨H + 8, 0, Option.none⟩)) (.int .i64 (i : Nat)) (s14) (s103) (s104) (s105))
    (hZ : ∀ a', Fr41d a' (.int .i64 (v : Nat)) (.pointer (some ⟨H + 10, 0, Option.none⟩)) (.pointer (some ⟨H + 2, 0, Option.none⟩)) (.pointer (some ⟨H + 4, 0, Option.none⟩)) (.pointer (some ⟨H + 9, 0, Option.none⟩)) (.pointer (some ⟨H + 6, 0, Option.none⟩)) (.pointer (some ⟨H, 0, Option.none⟩)) (.pointer (some ⟨H + 11, 0, Option.none⟩)) (.pointer (some ⟨H + 8, 0, Option.none⟩)) (.int .i64 (i : Nat)) (s14) (.slice (some ⟨b, i, Option.none⟩) m (C - i)) (.int .i64 (m : Nat)) (.int .i64 0) → Q .normal a' w) :
    Code.wp Try.prog (headC (stm Try.f41.body 8)) Q a w := by
  have HZ := hide hZ
  have c1 := hr.cell (i := 0) (by omega)
  have l1 : (i : Int) ≤ ((i + m : Nat) : Int) := by omega
  have l3 : ¬ i = C := by omega
  have l4 : i < C := by omega
  have l5 : 0 < C - i := by omega
  have l6 : ¬ C - i = 0 := by omega
  clear hZ hr
  refine fr_open41d (fun a => Code.wp Try.prog (headC (stm Try.f41.body 8)) Q a w) a hF ?_
  intro u9 u10 u11 u13 u15 u16 u17 u18 u19 u20 u21 u22 u23 u24 u25 u26 u27 u28 u29 u30 u31 u32 u33 u34 u35 u36 u37 u38 u39 u40 u41 u42 u43 u44 u45 u46 u47 u48 u49 u50 u51 u52 u53 u54 u55 u56 u57 u58 u59 u60 u61 u62 u63 u64 u65 u66 u67 u68 u69 u70 u71 u72 u73 u74 u75 u76 u77 u78 u79 u80 u81 u82 u83 u84 u85 u86 u87 u88 u89 u90 u91 u92 u93 u94 u95 u96 u97 u98 u99 u100 u101 u102 u106 u107 u108 u109 u110 u111 u112 u113 u114 u115 u116 u117 u118 u119 u120 u121 u122 u123
  dsimp only
  conv => arg 2; whnf
  go_wp2_with fail
  exact unhide HZ _ ⟨rfl, rfl, rfl, rfl, rfl, rfl, rfl, rfl, rfl, rfl, rfl, rfl, rfl, rfl, rfl, rfl⟩

set_option maxHeartbeats 8000000 in
set_option maxRecDepth 100000 in
theorem v9a (X : Code)
    (hF : Fr41d a (.int .i64 (v : Nat)) (.pointer (some ⟨H + 10, 0, Option.none⟩)) (.pointer (some ⟨H + 2, 0, Option.none⟩)) (.pointer (some ⟨H + 4, 0, Option.none⟩)) (.pointer (some ⟨H + 9, 0, Option.none⟩)) (.pointer (some ⟨H + 6, 0, Option.none⟩)) (.pointer (some ⟨H, 0, Option.none⟩)) (.pointer (some ⟨H + 11, 0, Option.none⟩)) (.pointer (some ⟨H + 8, 0, Option.none⟩)) (.int .i64 (i : Nat)) (s14) (s103) (.int .i64 (m : Nat)) (.int .i64 (k : Nat)))
    (h1 : k < m → ∀ a', Fr41d a' (.int .i64 (v : Nat)) (.pointer (some ⟨H + 10, 0, Option.none⟩)) (.pointer (some ⟨H + 2, 0, Option.none⟩)) (.pointer (some ⟨H + 4, 0, Option.none⟩)) (.pointer (some ⟨H + 9, 0, Option.none⟩)) (.pointer (some ⟨H + 6, 0, Option.none⟩)) (.pointer (some ⟨H, 0, Option.none⟩)) (.pointer (some ⟨H + 11, 0, Option.none⟩)) (.pointer (some ⟨H + 8, 0, Option.none⟩)) (.int .i64 (i : Nat)) (s14) (s103) (.int .i64 (m : Nat)) (.int .i64 (k : Nat)) → Code.wp Try.prog X Q a' w)
    (h2 : ¬ k < m → ∀ a', Fr41d a' (.int .i64 (v : Nat)) (.pointer (some ⟨H + 10, 0, Option.none⟩)) (.pointer (some ⟨H + 2, 0, Option.none⟩)) (.pointer (some ⟨H + 4, 0, Option.none⟩)) (.pointer (some ⟨H + 9, 0, Option.none⟩)) (.pointer (some ⟨H + 6, 0, Option.none⟩)) (.pointer (some ⟨H, 0, Option.none⟩)) (.pointer (some ⟨H + 11, 0, Option.none⟩)) (.pointer (some ⟨H + 8, 0, Option.none⟩)) (.int .i64 (i : Nat)) (s14) (s103) (.int .i64 (m : Nat)) (.int .i64 (k : Nat)) → Q (.exit 5) a' w) :
    Code.wp Try.prog (.seq (headC (innerC (innerC (tailC (stm Try.f41.body 8))))) (.seq (headC (tailC (innerC (innerC (tailC (stm Try.f41.body 8)))))) X)) Q a w := by
  by_cases hk : k < m
  · have HZ := hide (h1 hk)
    have lk : (k : Int) < (m : Int) := by omega
    clear h1 h2 hk
    refine fr_open41d (fun a => Code.wp Try.prog (.seq (headC (innerC (innerC (tailC (stm Try.f41.body 8))))) (.seq (headC (tailC (innerC (innerC (tailC (stm Try.f41.body 8)))))) X)) Q a w) a hF ?_
    intro u9 u10 u11 u13 u15 u16 u17 u18 u19 u20 u21 u22 u23 u24 u25 u26 u27 u28 u29 u30 u31 u32 u33 u34 u35 u36 u37 u38 u39 u40 u41 u42 u43 u44 u45 u46 u47 u48 u49 u50 u51 u52 u53 u54 u55 u56 u57 u58 u59 u60 u61 u62 u63 u64 u65 u66 u67 u68 u69 u70 u71 u72 u73 u74 u75 u76 u77 u78 u79 u80 u81 u82 u83 u84 u85 u86 u87 u88 u89 u90 u91 u92 u93 u94 u95 u96 u97 u98 u99 u100 u101 u102 u106 u107 u108 u109 u110 u111 u112 u113 u114 u115 u116 u117 u118 u119 u120 u121 u122 u123
    dsimp only
    conv => arg 2; arg 1; whnf
    conv => arg 2; arg 2; arg 1; whnf
    go_wp2_with fail
    exact unhide HZ _ ⟨rfl, rfl, rfl, rfl, rfl, rfl, rfl, rfl, rfl, rfl, rfl, rfl, rfl, rfl, rfl, rfl⟩
  · have HZ := hide (h2 hk)
    have lk : ¬ (k : Int) < (m : Int) := by omega
    clear h1 h2 hk
    refine fr_open41d (fun a => Code.wp Try.prog (.seq (headC (innerC (innerC (tailC (stm Try.f41.body 8))))) (.seq (headC (tailC (innerC (innerC (tailC (stm Try.f41.body 8)))))) X)) Q a w) a hF ?_
    intro u9 u10 u11 u13 u15 u16 u17 u18 u19 u20 u21 u22 u23 u24 u25 u26 u27 u28 u29 u30 u31 u32 u33 u34 u35 u36 u37 u38 u39 u40 u41 u42 u43 u44 u45 u46 u47 u48 u49 u50 u51 u52 u53 u54 u55 u56 u57 u58 u59 u60 u61 u62 u63 u64 u65 u66 u67 u68 u69 u70 u71 u72 u73 u74 u75 u76 u77 u78 u79 u80 u81 u82 u83 u84 u85 u86 u87 u88 u89 u90 u91 u92 u93 u94 u95 u96 u97 u98 u99 u100 u101 u102 u106 u107 u108 u109 u110 u111 u112 u113 u114 u115 u116 u117 u118 u119 u120 u121 u122 u123
    dsimp only
    conv => arg 2; arg 1; whnf
    conv => arg 2; arg 2; arg 1; whnf
    go_wp2_with fail
    exact unhide HZ _ ⟨rfl, rfl, rfl, rfl, rfl, rfl, rfl, rfl, rfl, rfl, rfl, rfl, rfl, rfl, rfl, rfl⟩

set_option maxHeartbeats 8000000 in
set_option maxRecDepth 100000 in
theorem v9b {b : Nat} (hk : k < m) (hc : w.cell? ⟨b, i + k, Option.none⟩ = some (.int .i64 (x : Nat)))
    (hF : Fr41d a (.int .i64 (v : Nat)) (.pointer (some ⟨H + 10, 0, Option.none⟩)) (.pointer (some ⟨H + 2, 0, Option.none⟩)) (.pointer (some ⟨H + 4, 0, Option.none⟩)) (.pointer (some ⟨H + 9, 0, Option.none⟩)) (.pointer (some ⟨H + 6, 0, Option.none⟩)) (.pointer (some ⟨H, 0, Option.none⟩)) (.pointer (some ⟨H + 11, 0, Option.none⟩)) (.pointer (some ⟨H + 8, 0, Option.none⟩)) (.int .i64 (i : Nat)) (s14) (.slice (some ⟨b, i, Option.none⟩) m C) (.int .i64 (m : Nat)) (.int .i64 (k : Nat)))
    (hZ : ∀ a', Fr41d a' (.int .i64 (v : Nat)) (.pointer (some ⟨H + 10, 0, Option.none⟩)) (.pointer (some ⟨H + 2, 0, Option.none⟩)) (.pointer (some ⟨H + 4, 0, Option.none⟩)) (.pointer (some ⟨H + 9, 0, Option.none⟩)) (.pointer (some ⟨H + 6, 0, Option.none⟩)) (.pointer (some ⟨H, 0, Option.none⟩)) (.pointer (some ⟨H + 11, 0, Option.none⟩)) (.pointer (some ⟨H + 8, 0, Option.none⟩)) (.int .i64 (i : Nat)) (.int .i64 (x : Nat)) (.slice (some ⟨b, i, Option.none⟩) m C) (.int .i64 (m : Nat)) (.int .i64 (k : Nat)) → Q .normal a' w) :
    Code.wp Try.prog (headC (innerC (headC (tailC (tailC (innerC (innerC (tailC (stm Try.f41.body 8))))))))) Q a w := by
  have HZ := hide hZ
  have lk : (k : Int) < (m : Int) := by omega
  clear hZ
  refine fr_open41d (fun a => Code.wp Try.prog (headC (innerC (headC (tailC (tailC (innerC (innerC (tailC (stm Try.f41.body 8))))))))) Q a w) a hF ?_
  intro u9 u10 u11 u13 u15 u16 u17 u18 u19 u20 u21 u22 u23 u24 u25 u26 u27 u28 u29 u30 u31 u32 u33 u34 u35 u36 u37 u38 u39 u40 u41 u42 u43 u44 u45 u46 u47 u48 u49 u50 u51 u52 u53 u54 u55 u56 u57 u58 u59 u60 u61 u62 u63 u64 u65 u66 u67 u68 u69 u70 u71 u72 u73 u74 u75 u76 u77 u78 u79 u80 u81 u82 u83 u84 u85 u86 u87 u88 u89 u90 u91 u92 u93 u94 u95 u96 u97 u98 u99 u100 u101 u102 u106 u107 u108 u109 u110 u111 u112 u113 u114 u115 u116 u117 u118 u119 u120 u121 u122 u123
  dsimp only
  conv => arg 2; whnf
  go_wp2_with fail
  exact unhide HZ _ ⟨rfl, rfl, rfl, rfl, rfl, rfl, rfl, rfl, rfl, rfl, rfl, rfl, rfl, rfl, rfl, rfl⟩

set_option maxHeartbeats 8000000 in
set_option maxRecDepth 100000 in
theorem v9c (h : VS w H n F na oa nc oc s) (hx : x < n)
    (hF : Fr41d a (.int .i64 (v : Nat)) (.pointer (some ⟨H + 10, 0, Option.none⟩)) (.pointer (some ⟨H + 2, 0, Option.none⟩)) (.pointer (some ⟨H + 4, 0, Option.none⟩)) (.pointer (some ⟨H + 9, 0, Option.none⟩)) (.pointer (some ⟨H + 6, 0, Option.none⟩)) (.pointer (some ⟨H, 0, Option.none⟩)) (.pointer (some ⟨H + 11, 0, Option.none⟩)) (.pointer (some ⟨H + 8, 0, Option.none⟩)) (s12) (.int .i64 (x : Nat)) (s103) (s104) (s105))
    (hZ : ∀ a', Fr41d a' (.int .i64 (v : Nat)) (.pointer (some ⟨H + 10, 0, Option.none⟩)) (.pointer (some ⟨H + 2, 0, Option.none⟩)) (.pointer (some ⟨H + 4, 0, Option.none⟩)) (.pointer (some ⟨H + 9, 0, Option.none⟩)) (.pointer (some ⟨H + 6, 0, Option.none⟩)) (.pointer (some ⟨H, 0, Option.none⟩)) (.pointer (some ⟨H + 11, 0, Option.none⟩)) (.pointer (some ⟨H + 8, 0, Option.none⟩)) (s12) (.int .i64 (x : Nat)) (s103) (s104) (s105) → Q .normal a' (w.setCell ⟨H + 5, x, Option.none⟩ (.bool false))) :
    Code.wp Try.prog (headC (tailC (innerC (headC (tailC (tailC (innerC (innerC (tailC (stm Try.f41.body 8)))))))))) Q a w := by
  have HZ := hide hZ
  have c1 := h.bt.cell (i := 0) (by omega)
  have d1 := h.rt.cell (i := x) hx
  have f1 := h.rt.frozen x
  have lv : (x : Int) < (n : Int) := by omega
  clear hZ h
  refine fr_open41d (fun a => Code.wp Try.prog (headC (tailC (innerC (headC (tailC (tailC (innerC (innerC (tailC (stm Try.f41.body 8)))))))))) Q a w) a hF ?_
  intro u9 u10 u11 u13 u15 u16 u17 u18 u19 u20 u21 u22 u23 u24 u25 u26 u27 u28 u29 u30 u31 u32 u33 u34 u35 u36 u37 u38 u39 u40 u41 u42 u43 u44 u45 u46 u47 u48 u49 u50 u51 u52 u53 u54 u55 u56 u57 u58 u59 u60 u61 u62 u63 u64 u65 u66 u67 u68 u69 u70 u71 u72 u73 u74 u75 u76 u77 u78 u79 u80 u81 u82 u83 u84 u85 u86 u87 u88 u89 u90 u91 u92 u93 u94 u95 u96 u97 u98 u99 u100 u101 u102 u106 u107 u108 u109 u110 u111 u112 u113 u114 u115 u116 u117 u118 u119 u120 u121 u122 u123
  dsimp only
  conv => arg 2; whnf
  go_wp2_with fail
  exact unhide HZ _ ⟨rfl, rfl, rfl, rfl, rfl, rfl, rfl, rfl, rfl, rfl, rfl, rfl, rfl, rfl, rfl, rfl⟩

set_option maxHeartbeats 8000000 in
set_option maxRecDepth 100000 in
theorem v9d (h : VS w H n F na oa nc oc s) (hx : x < n) (hl : s.stk.length = i + m) (hb : i + m ≤ 65536)
    (hF : Fr41d a (.int .i64 (v : Nat)) (.pointer (some ⟨H + 10, 0, Option.none⟩)) (.pointer (some ⟨H + 2, 0, Option.none⟩)) (.pointer (some ⟨H + 4, 0, Option.none⟩)) (.pointer (some ⟨H + 9, 0, Option.none⟩)) (.pointer (some ⟨H + 6, 0, Option.none⟩)) (.pointer (some ⟨H, 0, Option.none⟩)) (.pointer (some ⟨H + 11, 0, Option.none⟩)) (.pointer (some ⟨H + 8, 0, Option.none⟩)) (.int .i64 (i : Nat)) (.int .i64 (x : Nat)) (s103) (s104) (s105))
    (hZ : ∀ a', Fr41d a' (.int .i64 (v : Nat)) (.pointer (some ⟨H + 10, 0, Option.none⟩)) (.pointer (some ⟨H + 2, 0, Option.none⟩)) (.pointer (some ⟨H + 4, 0, Option.none⟩)) (.pointer (some ⟨H + 9, 0, Option.none⟩)) (.pointer (some ⟨H + 6, 0, Option.none⟩)) (.pointer (some ⟨H, 0, Option.none⟩)) (.pointer (some ⟨H + 11, 0, Option.none⟩)) (.pointer (some ⟨H + 8, 0, Option.none⟩)) (.int .i64 (i : Nat)) (.int .i64 (x : Nat)) (s103) (s104) (s105) → Q .normal a' (w.setCell ⟨H + 7, x, Option.none⟩ (.bool (decide (1 < m))))) :
    Code.wp Try.prog (tailC (tailC (innerC (headC (tailC (tailC (innerC (innerC (tailC (stm Try.f41.body 8)))))))))) Q a w := by
  have HZ := hide hZ
  obtain ⟨A, C, hr, -, -, -⟩ := h.stack
  rw [hl] at hr
  have c0 := hr.cell (i := 0) (by omega)
  have c1 := h.bc.cell (i := 0) (by omega)
  have d1 := h.rc.cell (i := x) hx
  have f1 := h.rc.frozen x
  have lv : (x : Int) < (n : Int) := by omega
  have e2 : decide ((1 : Int) < (i : Int) + (m : Int) - (i : Int)) = decide (1 < m) := by simp only [decide_eq_decide]; omega
  clear hZ h hr hl
  refine fr_open41d (fun a => Code.wp Try.prog (tailC (tailC (innerC (headC (tailC (tailC (innerC (innerC (tailC (stm Try.f41.body 8)))))))))) Q a w) a hF ?_
  intro u9 u10 u11 u13 u15 u16 u17 u18 u19 u20 u21 u22 u23 u24 u25 u26 u27 u28 u29 u30 u31 u32 u33 u34 u35 u36 u37 u38 u39 u40 u41 u42 u43 u44 u45 u46 u47 u48 u49 u50 u51 u52 u53 u54 u55 u56 u57 u58 u59 u60 u61 u62 u63 u64 u65 u66 u67 u68 u69 u70 u71 u72 u73 u74 u75 u76 u77 u78 u79 u80 u81 u82 u83 u84 u85 u86 u87 u88 u89 u90 u91 u92 u93 u94 u95 u96 u97 u98 u99 u100 u101 u102 u106 u107 u108 u109 u110 u111 u112 u113 u114 u115 u116 u117 u118 u119 u120 u121 u122 u123
  dsimp only
  conv => arg 2; whnf
  go_wp2_with fail
  exact unhide HZ _ ⟨rfl, rfl, rfl, rfl, rfl, rfl, rfl, rfl, rfl, rfl, rfl, rfl, rfl, rfl, rfl, rfl⟩

set_option maxHeartbeats 8000000 in
set_option maxRecDepth 100000 in
theorem v9e (hk : k < m) (hb : m ≤ 65536)
    (hF : Fr41d a (.int .i64 (v : Nat)) (.pointer (some ⟨H + 10, 0, Option.none⟩)) (.pointer (some ⟨H + 2, 0, Option.none⟩)) (.pointer (some ⟨H + 4, 0, Option.none⟩)) (.pointer (some ⟨H + 9, 0, Option.none⟩)) (.pointer (some ⟨H + 6, 0, Option.none⟩)) (.pointer (some ⟨H, 0, Option.none⟩)) (.pointer (some ⟨H + 11, 0, Option.none⟩)) (.pointer (some ⟨H + 8, 0, Option.none⟩)) (.int .i64 (i : Nat)) (s14) (s103) (.int .i64 (m : Nat)) (.int .i64 (k : Nat)))
    (hZ : ∀ a', Fr41d a' (.int .i64 (v : Nat)) (.pointer (some ⟨H + 10, 0, Option.none⟩)) (.pointer (some ⟨H + 2, 0, Option.none⟩)) (.pointer (some ⟨H + 4, 0, Option.none⟩)) (.pointer (some ⟨H + 9, 0, Option.none⟩)) (.pointer (some ⟨H + 6, 0, Option.none⟩)) (.pointer (some ⟨H, 0, Option.none⟩)) (.pointer (some ⟨H + 11, 0, Option.none⟩)) (.pointer (some ⟨H + 8, 0, Option.none⟩)) (.int .i64 (i : Nat)) (s14) (s103) (.int .i64 (m : Nat)) (.int .i64 ((k + 1 : Nat) : Int)) → Q .normal a' w) :
    Code.wp Try.prog (tailC (tailC (tailC (innerC (innerC (tailC (stm Try.f41.body 8))))))) Q a w := by
  have HZ := hide hZ
  clear hZ
  refine fr_open41d (fun a => Code.wp Try.prog (tailC (tailC (tailC (innerC (innerC (tailC (stm Try.f41.body 8))))))) Q a w) a hF ?_
  intro u9 u10 u11 u13 u15 u16 u17 u18 u19 u20 u21 u22 u23 u24 u25 u26 u27 u28 u29 u30 u31 u32 u33 u34 u35 u36 u37 u38 u39 u40 u41 u42 u43 u44 u45 u46 u47 u48 u49 u50 u51 u52 u53 u54 u55 u56 u57 u58 u59 u60 u61 u62 u63 u64 u65 u66 u67 u68 u69 u70 u71 u72 u73 u74 u75 u76 u77 u78 u79 u80 u81 u82 u83 u84 u85 u86 u87 u88 u89 u90 u91 u92 u93 u94 u95 u96 u97 u98 u99 u100 u101 u102 u106 u107 u108 u109 u110 u111 u112 u113 u114 u115 u116 u117 u118 u119 u120 u121 u122 u123
  dsimp only
  conv => arg 2; whnf
  go_wp2_with fail
  exact unhide HZ _ ⟨rfl, rfl, rfl, rfl, rfl, rfl, rfl, rfl, rfl, rfl, rfl, rfl, rfl, rfl, rfl, rfl⟩

set_option maxHeartbeats 8000000 in
set_option maxRecDepth 100000 in
theorem v10 {b : Nat} (hr : w.rowIs (H + 9) 22 1 (fun _ => .slice (some ⟨b, 0, Option.none⟩) m C)) (hi : i ≤ m) (hC : m ≤ C)
    (hF : Fr41 a (.int .i64 (v : Nat)) (.pointer (some ⟨H + 10, 0, Option.none⟩)) (.pointer (some ⟨H + 2, 0, Option.none⟩)) (.pointer (some ⟨H + 4, 0, Option.none⟩)) (.pointer (some ⟨H + 9, 0, Option.none⟩)) (.pointer (some ⟨H + 6, 0, Option.none⟩)) (.pointer (some ⟨H, 0, Option.none⟩)) (.pointer (some ⟨H + 11, 0, Option.none⟩)) (.pointer (some ⟨H + 8, 0, Option.none⟩)) (.int .i64 (i : Nat)))
    (hZ : ∀ a', Fr41 a' (.int .i64 (v : Nat)) (.pointer (some ⟨H + 10, 0, Option.none⟩)) (.pointer (some ⟨H + 2, 0, Option.none⟩)) (.pointer (some ⟨H + 4, 0, Option.none⟩)) (.pointer (some ⟨H + 9, 0, Option.none⟩)) (.pointer (some ⟨H + 6, 0, Option.none⟩)) (.pointer (some ⟨H, 0, Option.none⟩)) (.pointer (some ⟨H + 11, 0, Option.none⟩)) (.pointer (some ⟨H + 8, 0, Option.none⟩)) (.int .i64 (i : Nat)) → Q .normal a' (w.setCell ⟨H + 9, 0, Option.none⟩ (.slice (some ⟨b, 0, Option.none⟩) i C))) :
    Code.wp Try.prog (rst Try.f41.body 9) Q a w := by
  have HZ := hide hZ
  have c1 := hr.cell (i := 0) (by omega)
  have f1 := hr.frozen 0
  have l1 : (i : Int) ≤ (m : Int) := by omega
  have l2 : (i : Int) ≤ (C : Int) := by omega
  clear hZ hr
  refine fr_open41 (fun a => Code.wp Try.prog (rst Try.f41.body 9) Q a w) a hF ?_
  intro u9 u10 u11 u13 u14 u15 u16 u17 u18 u19 u20 u21 u22 u23 u24 u25 u26 u27 u28 u29 u30 u31 u32 u33 u34 u35 u36 u37 u38 u39 u40 u41 u42 u43 u44 u45 u46 u47 u48 u49 u50 u51 u52 u53 u54 u55 u56 u57 u58 u59 u60 u61 u62 u63 u64 u65 u66 u67 u68 u69 u70 u71 u72 u73 u74 u75 u76 u77 u78 u79 u80 u81 u82 u83 u84 u85 u86 u87 u88 u89 u90 u91 u92 u93 u94 u95 u96 u97 u98 u99 u100 u101 u102 u103 u104 u105 u106 u107 u108 u109 u110 u111 u112 u113 u114 u115 u116 u117 u118 u119 u120 u121 u122 u123
  dsimp only
  conv => arg 2; whnf
  go_wp2_with fail
  exact unhide HZ _ ⟨rfl, rfl, rfl, rfl, rfl, rfl, rfl, rfl, rfl, rfl, rfl, rfl⟩

end Go.Proofs.Qxb6602460a
