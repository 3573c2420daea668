import Derived.Test.Qxb6602460aVisit2
namespace Go.Proofs.Qxb6602460a
open Go.RowKit Go.Maps Go.Own

variable {H n v : Nat} {F : Value} {na oa : Option Addr} {nc oc : Nat} {s : TS} {w : World} {Q : Exit → Act → World → Prop} {a : Act} {s11 s12 s36 s37 s38 : Value} {A : Option Addr} {N C k x : Nat}

set_option maxHeartbeats 8000000 in
set_option maxRecDepth 100000 in
theorem v4a
    (h : VS w H n F na oa nc oc s) (hv : v < n) (hg : ∃ b off, oa = some ⟨b, off, Option.none⟩ ∧ w.cell? ⟨b, off + v, Option.none⟩ = some (.slice A N C))
    (hF : Fr41b a (.int .i64 (v : Nat)) (.pointer (some ⟨H + 10, 0, Option.none⟩)) (.pointer (some ⟨H + 2, 0, Option.none⟩)) (.pointer (some ⟨H + 4, 0, Option.none⟩)) (.pointer (some ⟨H + 9, 0, Option.none⟩)) (.pointer (some ⟨H + 6, 0, Option.none⟩)) (.pointer (some ⟨H, 0, Option.none⟩)) (.pointer (some ⟨H + 11, 0, Option.none⟩)) (.pointer (some ⟨H + 8, 0, Option.none⟩)) (s11) (s36) (s37) (s38))
    (hZ : ∀ a', Fr41b a' (.int .i64 (v : Nat)) (.pointer (some ⟨H + 10, 0, Option.none⟩)) (.pointer (some ⟨H + 2, 0, Option.none⟩)) (.pointer (some ⟨H + 4, 0, Option.none⟩)) (.pointer (some ⟨H + 9, 0, Option.none⟩)) (.pointer (some ⟨H + 6, 0, Option.none⟩)) (.pointer (some ⟨H, 0, Option.none⟩)) (.pointer (some ⟨H + 11, 0, Option.none⟩)) (.pointer (some ⟨H + 8, 0, Option.none⟩)) (s11) (.slice A N C) (.int .i64 (N : Nat)) (.int .i64 0) → Q .normal a' w) :
    Code.wp Try.prog (headC (stm Try.f41.body 4)) Q a w := by
  have HZ := hide hZ
  obtain ⟨b, off, rfl, hg⟩ := hg
  have c1 := h.g.cell (i := 1) (by omega)
  rw [if_neg (by decide)] at c1
  have lv : (v : Int) < (n : Int) := by omega
  clear hZ h
  refine fr_open41b (fun a => Code.wp Try.prog (headC (stm Try.f41.body 4)) Q a w) a hF ?_
  intro u9 u10 u12 u13 u14 u15 u16 u17 u18 u19 u20 u21 u22 u23 u24 u25 u26 u27 u28 u29 u30 u31 u32 u33 u34 u35 u39 u40 u41 u42 u43 u44 u45 u46 u47 u48 u49 u50 u51 u52 u53 u54 u55 u56 u57 u58 u59 u60 u61 u62 u63 u64 u65 u66 u67 u68 u69 u70 u71 u72 u73 u74 u75 u76 u77 u78 u79 u80 u81 u82 u83 u84 u85 u86 u87 u88 u89 u90 u91 u92 u93 u94 u95 u96 u97 u98 u99 u100 u101 u102 u103 u104 u105 u106 u107 u108 u109 u110 u111 u112 u113 u114 u115 u116 u117 u118 u119 u120 u121 u122 u123
  dsimp only
  conv => arg 2; whnf
  go_wp2_with fail
  exact unhide HZ _ ⟨rfl, rfl, rfl, rfl, rfl, rfl, rfl, rfl, rfl, rfl, rfl, rfl, rfl, rfl, rfl⟩

set_option maxHeartbeats 8000000 in
set_option maxRecDepth 100000 in
theorem v4b  (X : Code)
    (hF : Fr41b a (.int .i64 (v : Nat)) (.pointer (some ⟨H + 10, 0, Option.none⟩)) (.pointer (some ⟨H + 2, 0, Option.none⟩)) (.pointer (some ⟨H + 4, 0, Option.none⟩)) (.pointer (some ⟨H + 9, 0, Option.none⟩)) (.pointer (some ⟨H + 6, 0, Option.none⟩)) (.pointer (some ⟨H, 0, Option.none⟩)) (.pointer (some ⟨H + 11, 0, Option.none⟩)) (.pointer (some ⟨H + 8, 0, Option.none⟩)) (s11) (.slice A N C) (.int .i64 (N : Nat)) (.int .i64 (k : Nat)))
    (h1 : k < N → ∀ a', Fr41b a' (.int .i64 (v : Nat)) (.pointer (some ⟨H + 10, 0, Option.none⟩)) (.pointer (some ⟨H + 2, 0, Option.none⟩)) (.pointer (some ⟨H + 4, 0, Option.none⟩)) (.pointer (some ⟨H + 9, 0, Option.none⟩)) (.pointer (some ⟨H + 6, 0, Option.none⟩)) (.pointer (some ⟨H, 0, Option.none⟩)) (.pointer (some ⟨H + 11, 0, Option.none⟩)) (.pointer (some ⟨H + 8, 0, Option.none⟩)) (s11) (.slice A N C) (.int .i64 (N : Nat)) (.int .i64 (k : Nat)) → Code.wp Try.prog X Q a' w)
    (h2 : ¬ k < N → ∀ a', Fr41b a' (.int .i64 (v : Nat)) (.pointer (some ⟨H + 10, 0, Option.none⟩)) (.pointer (some ⟨H + 2, 0, Option.none⟩)) (.pointer (some ⟨H + 4, 0, Option.none⟩)) (.pointer (some ⟨H + 9, 0, Option.none⟩)) (.pointer (some ⟨H + 6, 0, Option.none⟩)) (.pointer (some ⟨H, 0, Option.none⟩)) (.pointer (some ⟨H + 11, 0, Option.none⟩)) (.pointer (some ⟨H + 8, 0, Option.none⟩)) (s11) (.slice A N C) (.int .i64 (N : Nat)) (.int .i64 (k : Nat)) → Q (.exit 0) a' w) :
    Code.wp Try.prog (.seq (headC (lpOf (stm Try.f41.body 4))) (.seq (headC (tailC (lpOf (stm Try.f41.body 4)))) X)) Q a w := by
  by_cases hk : k < N
  · have HZ := hide (h1 hk)
    have lk : (k : Int) < (N : Int) := by omega
    clear h1 h2 hk
    refine fr_open41b (fun a => Code.wp Try.prog (.seq (headC (lpOf (stm Try.f41.body 4))) (.seq (headC (tailC (lpOf (stm Try.f41.body 4)))) X)) Q a w) a hF ?_
    intro u9 u10 u12 u13 u14 u15 u16 u17 u18 u19 u20 u21 u22 u23 u24 u25 u26 u27 u28 u29 u30 u31 u32 u33 u34 u35 u39 u40 u41 u42 u43 u44 u45 u46 u47 u48 u49 u50 u51 u52 u53 u54 u55 u56 u57 u58 u59 u60 u61 u62 u63 u64 u65 u66 u67 u68 u69 u70 u71 u72 u73 u74 u75 u76 u77 u78 u79 u80 u81 u82 u83 u84 u85 u86 u87 u88 u89 u90 u91 u92 u93 u94 u95 u96 u97 u98 u99 u100 u101 u102 u103 u104 u105 u106 u107 u108 u109 u110 u111 u112 u113 u114 u115 u116 u117 u118 u119 u120 u121 u122 u123
    dsimp only
    conv => arg 2; arg 1; whnf
    conv => arg 2; arg 2; arg 1; whnf
    go_wp2_with fail
    exact unhide HZ _ ⟨rfl, rfl, rfl, rfl, rfl, rfl, rfl, rfl, rfl, rfl, rfl, rfl, rfl, rfl, rfl⟩
  · have HZ := hide (h2 hk)
    have lk : ¬ (k : Int) < (N : Int) := by omega
    clear h1 h2 hk
    refine fr_open41b (fun a => Code.wp Try.prog (.seq (headC (lpOf (stm Try.f41.body 4))) (.seq (headC (tailC (lpOf (stm Try.f41.body 4)))) X)) Q a w) a hF ?_
    intro u9 u10 u12 u13 u14 u15 u16 u17 u18 u19 u20 u21 u22 u23 u24 u25 u26 u27 u28 u29 u30 u31 u32 u33 u34 u35 u39 u40 u41 u42 u43 u44 u45 u46 u47 u48 u49 u50 u51 u52 u53 u54 u55 u56 u57 u58 u59 u60 u61 u62 u63 u64 u65 u66 u67 u68 u69 u70 u71 u72 u73 u74 u75 u76 u77 u78 u79 u80 u81 u82 u83 u84 u85 u86 u87 u88 u89 u90 u91 u92 u93 u94 u95 u96 u97 u98 u99 u100 u101 u102 u103 u104 u105 u106 u107 u108 u109 u110 u111 u112 u113 u114 u115 u116 u117 u118 u119 u120 u121 u122 u123
    dsimp only
    conv => arg 2; arg 1; whnf
    conv => arg 2; arg 2; arg 1; whnf
    go_wp2_with fail
    exact unhide HZ _ ⟨rfl, rfl, rfl, rfl, rfl, rfl, rfl, rfl, rfl, rfl, rfl, rfl, rfl, rfl, rfl⟩

set_option maxHeartbeats 8000000 in
set_option maxRecDepth 100000 in
theorem v4c (hk : k < N) (hg : ∃ b off, A = some ⟨b, off, Option.none⟩ ∧ w.cell? ⟨b, off + k, Option.none⟩ = some (.int .i64 (x : Nat)))
    (hF : Fr41b a (.int .i64 (v : Nat)) (.pointer (some ⟨H + 10, 0, Option.none⟩)) (.pointer (some ⟨H + 2, 0, Option.none⟩)) (.pointer (some ⟨H + 4, 0, Option.none⟩)) (.pointer (some ⟨H + 9, 0, Option.none⟩)) (.pointer (some ⟨H + 6, 0, Option.none⟩)) (.pointer (some ⟨H, 0, Option.none⟩)) (.pointer (some ⟨H + 11, 0, Option.none⟩)) (.pointer (some ⟨H + 8, 0, Option.none⟩)) (s11) (.slice A N C) (.int .i64 (N : Nat)) (.int .i64 (k : Nat)))
    (hZ : ∀ a', Fr41b a' (.int .i64 (v : Nat)) (.pointer (some ⟨H + 10, 0, Option.none⟩)) (.pointer (some ⟨H + 2, 0, Option.none⟩)) (.pointer (some ⟨H + 4, 0, Option.none⟩)) (.pointer (some ⟨H + 9, 0, Option.none⟩)) (.pointer (some ⟨H + 6, 0, Option.none⟩)) (.pointer (some ⟨H, 0, Option.none⟩)) (.pointer (some ⟨H + 11, 0, Option.none⟩)) (.pointer (some ⟨H + 8, 0, Option.none⟩)) (.int .i64 (x : Nat)) (.slice A N C) (.int .i64 (N : Nat)) (.int .i64 (k : Nat)) → Q .normal a' w) :
    Code.wp Try.prog (headC (innerC (headC (tailC (tailC (lpOf (stm Try.f41.body 4))))))) Q a w := by
  have HZ := hide hZ
  obtain ⟨b, off, rfl, hg⟩ := hg
  have lk : (k : Int) < (N : Int) := by omega
  clear hZ
  refine fr_open41b (fun a => Code.wp Try.prog (headC (innerC (headC (tailC (tailC (lpOf (stm Try.f41.body 4))))))) Q a w) a hF ?_
  intro u9 u10 u12 u13 u14 u15 u16 u17 u18 u19 u20 u21 u22 u23 u24 u25 u26 u27 u28 u29 u30 u31 u32 u33 u34 u35 u39 u40 u41 u42 u43 u44 u45 u46 u47 u48 u49 u50 u51 u52 u53 u54 u55 u56 u57 u58 u59 u60 u61 u62 u63 u64 u65 u66 u67 u68 u69 u70 u71 u72 u73 u74 u75 u76 u77 u78 u79 u80 u81 u82 u83 u84 u85 u86 u87 u88 u89 u90 u91 u92 u93 u94 u95 u96 u97 u98 u99 u100 u101 u102 u103 u104 u105 u106 u107 u108 u109 u110 u111 u112 u113 u114 u115 u116 u117 u118 u119 u120 u121 u122 u123
  dsimp only
  conv => arg 2; whnf
  go_wp2_with fail
  exact unhide HZ _ ⟨rfl, rfl, rfl, rfl, rfl, rfl, rfl, rfl, rfl, rfl, rfl, rfl, rfl, rfl, rfl⟩

set_option maxHeartbeats 8000000 in
set_option maxRecDepth 100000 in
theorem v4d (X Y : Code)
    (h : VS w H n F na oa nc oc s) (hx : x < n)
    (hF : Fr41b a (.int .i64 (v : Nat)) (.pointer (some ⟨H + 10, 0, Option.none⟩)) (.pointer (some ⟨H + 2, 0, Option.none⟩)) (.pointer (some ⟨H + 4, 0, Option.none⟩)) (.pointer (some ⟨H + 9, 0, Option.none⟩)) (.pointer (some ⟨H + 6, 0, Option.none⟩)) (.pointer (some ⟨H, 0, Option.none⟩)) (.pointer (some ⟨H + 11, 0, Option.none⟩)) (.pointer (some ⟨H + 8, 0, Option.none⟩)) (.int .i64 (x : Nat)) (s36) (s37) (s38))
    (h1 : s.ord x = 0 → ∀ a', Fr41b a' (.int .i64 (v : Nat)) (.pointer (some ⟨H + 10, 0, Option.none⟩)) (.pointer (some ⟨H + 2, 0, Option.none⟩)) (.pointer (some ⟨H + 4, 0, Option.none⟩)) (.pointer (some ⟨H + 9, 0, Option.none⟩)) (.pointer (some ⟨H + 6, 0, Option.none⟩)) (.pointer (some ⟨H, 0, Option.none⟩)) (.pointer (some ⟨H + 11, 0, Option.none⟩)) (.pointer (some ⟨H + 8, 0, Option.none⟩)) (.int .i64 (x : Nat)) (s36) (s37) (s38) → Code.wp Try.prog X Q a' w)
    (h2 : ¬ s.ord x = 0 → ∀ a', Fr41b a' (.int .i64 (v : Nat)) (.pointer (some ⟨H + 10, 0, Option.none⟩)) (.pointer (some ⟨H + 2, 0, Option.none⟩)) (.pointer (some ⟨H + 4, 0, Option.none⟩)) (.pointer (some ⟨H + 9, 0, Option.none⟩)) (.pointer (some ⟨H + 6, 0, Option.none⟩)) (.pointer (some ⟨H, 0, Option.none⟩)) (.pointer (some ⟨H + 11, 0, Option.none⟩)) (.pointer (some ⟨H + 8, 0, Option.none⟩)) (.int .i64 (x : Nat)) (s36) (s37) (s38) → Code.wp Try.prog Y Q a' w) :
    Code.wp Try.prog (.seq (headC (lpIn (stm Try.f41.body 4))) (.cond (.tmp 42) X Y)) Q a w := by
  have c1 := h.bo.cell (i := 0) (by omega)
  have d1 := h.ro.cell (i := x) hx
  have lx : (x : Int) < (n : Int) := by omega
  clear h
  by_cases hc : s.ord x = 0
  · have HZ := hide (h1 hc)
    rw [hc] at d1
    clear h1 h2
    refine fr_open41b (fun a => Code.wp Try.prog (.seq (headC (lpIn (stm Try.f41.body 4))) (.cond (.tmp 42) X Y)) Q a w) a hF ?_
    intro u9 u10 u12 u13 u14 u15 u16 u17 u18 u19 u20 u21 u22 u23 u24 u25 u26 u27 u28 u29 u30 u31 u32 u33 u34 u35 u39 u40 u41 u42 u43 u44 u45 u46 u47 u48 u49 u50 u51 u52 u53 u54 u55 u56 u57 u58 u59 u60 u61 u62 u63 u64 u65 u66 u67 u68 u69 u70 u71 u72 u73 u74 u75 u76 u77 u78 u79 u80 u81 u82 u83 u84 u85 u86 u87 u88 u89 u90 u91 u92 u93 u94 u95 u96 u97 u98 u99 u100 u101 u102 u103 u104 u105 u106 u107 u108 u109 u110 u111 u112 u113 u114 u115 u116 u117 u118 u119 u120 u121 u122 u123
    dsimp only
    conv => arg 2; arg 1; whnf
    go_wp2_with fail
    exact unhide HZ _ ⟨rfl, rfl, rfl, rfl, rfl, rfl, rfl, rfl, rfl, rfl, rfl, rfl, rfl, rfl, rfl⟩
  · have HZ := hide (h2 hc)
    have t1 : ¬ ((s.ord x : Nat) : Int) = 0 := by omega
    clear h1 h2
    refine fr_open41b (fun a => Code.wp Try.prog (.seq (headC (lpIn (stm Try.f41.body 4))) (.cond (.tmp 42) X Y)) Q a w) a hF ?_
    intro u9 u10 u12 u13 u14 u15 u16 u17 u18 u19 u20 u21 u22 u23 u24 u25 u26 u27 u28 u29 u30 u31 u32 u33 u34 u35 u39 u40 u41 u42 u43 u44 u45 u46 u47 u48 u49 u50 u51 u52 u53 u54 u55 u56 u57 u58 u59 u60 u61 u62 u63 u64 u65 u66 u67 u68 u69 u70 u71 u72 u73 u74 u75 u76 u77 u78 u79 u80 u81 u82 u83 u84 u85 u86 u87 u88 u89 u90 u91 u92 u93 u94 u95 u96 u97 u98 u99 u100 u101 u102 u103 u104 u105 u106 u107 u108 u109 u110 u111 u112 u113 u114 u115 u116 u117 u118 u119 u120 u121 u122 u123
    dsimp only
    conv => arg 2; arg 1; whnf
    go_wp2_with fail
    exact unhide HZ _ ⟨rfl, rfl, rfl, rfl, rfl, rfl, rfl, rfl, rfl, rfl, rfl, rfl, rfl, rfl, rfl⟩

set_option maxHeartbeats 8000000 in
set_option maxRecDepth 100000 in
theorem v4e (X Y : Code)
    (h : VS w H n F na oa nc oc s) (hx : x < n)
    (hF : Fr41b a (.int .i64 (v : Nat)) (.pointer (some ⟨H + 10, 0, Option.none⟩)) (.pointer (some ⟨H + 2, 0, Option.none⟩)) (.pointer (some ⟨H + 4, 0, Option.none⟩)) (.pointer (some ⟨H + 9, 0, Option.none⟩)) (.pointer (some ⟨H + 6, 0, Option.none⟩)) (.pointer (some ⟨H, 0, Option.none⟩)) (.pointer (some ⟨H + 11, 0, Option.none⟩)) (.pointer (some ⟨H + 8, 0, Option.none⟩)) (.int .i64 (x : Nat)) (s36) (s37) (s38))
    (h1 : s.onS x = true → ∀ a', Fr41b a' (.int .i64 (v : Nat)) (.pointer (some ⟨H + 10, 0, Option.none⟩)) (.pointer (some ⟨H + 2, 0, Option.none⟩)) (.pointer (some ⟨H + 4, 0, Option.none⟩)) (.pointer (some ⟨H + 9, 0, Option.none⟩)) (.pointer (some ⟨H + 6, 0, Option.none⟩)) (.pointer (some ⟨H, 0, Option.none⟩)) (.pointer (some ⟨H + 11, 0, Option.none⟩)) (.pointer (some ⟨H + 8, 0, Option.none⟩)) (.int .i64 (x : Nat)) (s36) (s37) (s38) → Code.wp Try.prog X Q a' w)
    (h2 : ¬ s.onS x = true → ∀ a', Fr41b a' (.int .i64 (v : Nat)) (.pointer (some ⟨H + 10, 0, Option.none⟩)) (.pointer (some ⟨H + 2, 0, Option.none⟩)) (.pointer (some ⟨H + 4, 0, Option.none⟩)) (.pointer (some ⟨H + 9, 0, Option.none⟩)) (.pointer (some ⟨H + 6, 0, Option.none⟩)) (.pointer (some ⟨H, 0, Option.none⟩)) (.pointer (some ⟨H + 11, 0, Option.none⟩)) (.pointer (some ⟨H + 8, 0, Option.none⟩)) (.int .i64 (x : Nat)) (s36) (s37) (s38) → Code.wp Try.prog Y Q a' w) :
    Code.wp Try.prog (.seq (headC (condF (tailC (lpIn (stm Try.f41.body 4))))) (.cond (.tmp 63) X Y)) Q a w := by
  have c1 := h.bt.cell (i := 0) (by omega)
  have d1 := h.rt.cell (i := x) hx
  have lx : (x : Int) < (n : Int) := by omega
  clear h
  by_cases hc : s.onS x = true
  · have HZ := hide (h1 hc)
    rw [hc] at d1
    clear h1 h2
    refine fr_open41b (fun a => Code.wp Try.prog (.seq (headC (condF (tailC (lpIn (stm Try.f41.body 4))))) (.cond (.tmp 63) X Y)) Q a w) a hF ?_
    intro u9 u10 u12 u13 u14 u15 u16 u17 u18 u19 u20 u21 u22 u23 u24 u25 u26 u27 u28 u29 u30 u31 u32 u33 u34 u35 u39 u40 u41 u42 u43 u44 u45 u46 u47 u48 u49 u50 u51 u52 u53 u54 u55 u56 u57 u58 u59 u60 u61 u62 u63 u64 u65 u66 u67 u68 u69 u70 u71 u72 u73 u74 u75 u76 u77 u78 u79 u80 u81 u82 u83 u84 u85 u86 u87 u88 u89 u90 u91 u92 u93 u94 u95 u96 u97 u98 u99 u100 u101 u102 u103 u104 u105 u106 u107 u108 u109 u110 u111 u112 u113 u114 u115 u116 u117 u118 u119 u120 u121 u122 u123
    dsimp only
    conv => arg 2; arg 1; whnf
    go_wp2_with fail
    exact unhide HZ _ ⟨rfl, rfl, rfl, rfl, rfl, rfl, rfl, rfl, rfl, rfl, rfl, rfl, rfl, rfl, rfl⟩
  · have HZ := hide (h2 hc)
    rw [Bool.not_eq_true] at hc
    rw [hc] at d1
    clear h1 h2
    refine fr_open41b (fun a => Code.wp Try.prog (.seq (headC (condF (tailC (lpIn (stm Try.f41.body 4))))) (.cond (.tmp 63) X Y)) Q a w) a hF ?_
    intro u9 u10 u12 u13 u14 u15 u16 u17 u18 u19 u20 u21 u22 u23 u24 u25 u26 u27 u28 u29 u30 u31 u32 u33 u34 u35 u39 u40 u41 u42 u43 u44 u45 u46 u47 u48 u49 u50 u51 u52 u53 u54 u55 u56 u57 u58 u59 u60 u61 u62 u63 u64 u65 u66 u67 u68 u69 u70 u71 u72 u73 u74 u75 u76 u77 u78 u79 u80 u81 u82 u83 u84 u85 u86 u87 u88 u89 u90 u91 u92 u93 u94 u95 u96 u97 u98 u99 u100 u101 u102 u103 u104 u105 u106 u107 u108 u109 u110 u111 u112 u113 u114 u115 u116 u117 u118 u119 u120 u121 u122 u123
    dsimp only
    conv => arg 2; arg 1; whnf
    go_wp2_with fail
    exact unhide HZ _ ⟨rfl, rfl, rfl, rfl, rfl, rfl, rfl, rfl, rfl, rfl, rfl, rfl, rfl, rfl, rfl⟩

set_option maxHeartbeats 8000000 in
set_option maxRecDepth 100000 in
theorem v4f  (hk : k < N) (hN : N ≤ 1048576)
    (hF : Fr41b a (.int .i64 (v : Nat)) (.pointer (some ⟨H + 10, 0, Option.none⟩)) (.pointer (some ⟨H + 2, 0, Option.none⟩)) (.pointer (some ⟨H + 4, 0, Option.none⟩)) (.pointer (some ⟨H + 9, 0, Option.none⟩)) (.pointer (some ⟨H + 6, 0, Option.none⟩)) (.pointer (some ⟨H, 0, Option.none⟩)) (.pointer (some ⟨H + 11, 0, Option.none⟩)) (.pointer (some ⟨H + 8, 0, Option.none⟩)) (s11) (.slice A N C) (.int .i64 (N : Nat)) (.int .i64 (k : Nat)))
    (hZ : ∀ a', Fr41b a' (.int .i64 (v : Nat)) (.pointer (some ⟨H + 10, 0, Option.none⟩)) (.pointer (some ⟨H + 2, 0, Option.none⟩)) (.pointer (some ⟨H + 4, 0, Option.none⟩)) (.pointer (some ⟨H + 9, 0, Option.none⟩)) (.pointer (some ⟨H + 6, 0, Option.none⟩)) (.pointer (some ⟨H, 0, Option.none⟩)) (.pointer (some ⟨H + 11, 0, Option.none⟩)) (.pointer (some ⟨H + 8, 0, Option.none⟩)) (s11) (.slice A N C) (.int .i64 (N : Nat)) (.int .i64 ((k + 1 : Nat) : Int)) → Q .normal a' w) :
    Code.wp Try.prog (tailC (tailC (tailC (lpOf (stm Try.f41.body 4))))) Q a w := by
  have HZ := hide hZ
  clear hZ
  refine fr_open41b (fun a => Code.wp Try.prog (tailC (tailC (tailC (lpOf (stm Try.f41.body 4))))) Q a w) a hF ?_
  intro u9 u10 u12 u13 u14 u15 u16 u17 u18 u19 u20 u21 u22 u23 u24 u25 u26 u27 u28 u29 u30 u31 u32 u33 u34 u35 u39 u40 u41 u42 u43 u44 u45 u46 u47 u48 u49 u50 u51 u52 u53 u54 u55 u56 u57 u58 u59 u60 u61 u62 u63 u64 u65 u66 u67 u68 u69 u70 u71 u72 u73 u74 u75 u76 u77 u78 u79 u80 u81 u82 u83 u84 u85 u86 u87 u88 u89 u90 u91 u92 u93 u94 u95 u96 u97 u98 u99 u100 u101 u102 u103 u104 u105 u106 u107 u108 u109 u110 u111 u112 u113 u114 u115 u116 u117 u118 u119 u120 u121 u122 u123
  dsimp only
  conv => arg 2; whnf
  go_wp2_with fail
  exact unhide HZ _ ⟨rfl, rfl, rfl, rfl, rfl, rfl, rfl, rfl, rfl, rfl, rfl, rfl, rfl, rfl, rfl⟩

set_option maxHeartbeats 8000000 in
set_option maxRecDepth 100000 in
theorem v4g (R : Ending → World → Prop)  (hc : w.cell? ⟨H + 11, 0, Option.none⟩ = some (.func (.func 41) #[] #[.pointer (some ⟨H + 10, 0, Option.none⟩), .pointer (some ⟨H + 2, 0, Option.none⟩), .pointer (some ⟨H + 4, 0, Option.none⟩), .pointer (some ⟨H + 9, 0, Option.none⟩), .pointer (some ⟨H + 6, 0, Option.none⟩), .pointer (some ⟨H, 0, Option.none⟩), .pointer (some ⟨H + 11, 0, Option.none⟩), .pointer (some ⟨H + 8, 0, Option.none⟩)]))
    (hcall : Calls Try.prog 41 #[.int .i64 (x : Nat), .pointer (some ⟨H + 10, 0, Option.none⟩), .pointer (some ⟨H + 2, 0, Option.none⟩), .pointer (some ⟨H + 4, 0, Option.none⟩), .pointer (some ⟨H + 9, 0, Option.none⟩), .pointer (some ⟨H + 6, 0, Option.none⟩), .pointer (some ⟨H, 0, Option.none⟩), .pointer (some ⟨H + 11, 0, Option.none⟩), .pointer (some ⟨H + 8, 0, Option.none⟩)] w R)
    (hF : Fr41b a (.int .i64 (v : Nat)) (.pointer (some ⟨H + 10, 0, Option.none⟩)) (.pointer (some ⟨H + 2, 0, Option.none⟩)) (.pointer (some ⟨H + 4, 0, Option.none⟩)) (.pointer (some ⟨H + 9, 0, Option.none⟩)) (.pointer (some ⟨H + 6, 0, Option.none⟩)) (.pointer (some ⟨H, 0, Option.none⟩)) (.pointer (some ⟨H + 11, 0, Option.none⟩)) (.pointer (some ⟨H + 8, 0, Option.none⟩)) (.int .i64 (x : Nat)) (s36) (s37) (s38))
    (hR : ∀ e w', R e w' → e = .returned (.tuple #[]))
    (hZ : ∀ a' w', Fr41b a' (.int .i64 (v : Nat)) (.pointer (some ⟨H + 10, 0, Option.none⟩)) (.pointer (some ⟨H + 2, 0, Option.none⟩)) (.pointer (some ⟨H + 4, 0, Option.none⟩)) (.pointer (some ⟨H + 9, 0, Option.none⟩)) (.pointer (some ⟨H + 6, 0, Option.none⟩)) (.pointer (some ⟨H, 0, Option.none⟩)) (.pointer (some ⟨H + 11, 0, Option.none⟩)) (.pointer (some ⟨H + 8, 0, Option.none⟩)) (.int .i64 (x : Nat)) (s36) (s37) (s38) → R (.returned (.tuple #[])) w' → Q .normal a' w') :
    Code.wp Try.prog (headC (condT (tailC (lpIn (stm Try.f41.body 4))))) Q a w := by
  have HZ := hide hZ
  have HR := hide hR
  clear hZ hR
  refine fr_open41b (fun a => Code.wp Try.prog (headC (condT (tailC (lpIn (stm Try.f41.body 4))))) Q a w) a hF ?_
  intro u9 u10 u12 u13 u14 u15 u16 u17 u18 u19 u20 u21 u22 u23 u24 u25 u26 u27 u28 u29 u30 u31 u32 u33 u34 u35 u39 u40 u41 u42 u43 u44 u45 u46 u47 u48 u49 u50 u51 u52 u53 u54 u55 u56 u57 u58 u59 u60 u61 u62 u63 u64 u65 u66 u67 u68 u69 u70 u71 u72 u73 u74 u75 u76 u77 u78 u79 u80 u81 u82 u83 u84 u85 u86 u87 u88 u89 u90 u91 u92 u93 u94 u95 u96 u97 u98 u99 u100 u101 u102 u103 u104 u105 u106 u107 u108 u109 u110 u111 u112 u113 u114 u115 u116 u117 u118 u119 u120 u121 u122 u123
  dsimp only
  conv => arg 2; whnf
  go_wp2_with fail
  refine hcall.mono ?_
  intro e w2 hr
  have he := unhide HR e w2 hr
  subst he
  have HQ := hide hr
  clear hr
  go_wp2_with fail
  exact unhide HZ _ _ ⟨rfl, rfl, rfl, rfl, rfl, rfl, rfl, rfl, rfl, rfl, rfl, rfl, rfl, rfl, rfl⟩ (unhide HQ)

end Go.Proofs.Qxb6602460a
