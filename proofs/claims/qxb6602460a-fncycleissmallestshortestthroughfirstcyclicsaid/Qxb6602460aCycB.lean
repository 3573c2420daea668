import Derived.Test.Qxb6602460aCycA
namespace Go.Proofs.Qxb6602460a
open Go.RowKit Go.Maps Go.Own

variable {H n s PB : Nat} {na oa : Option Addr} {nc oc : Nat} {w : World} {Q : Exit → Act → World → Prop} {a : Act} {s3 s4 s6 s7 s9 s46 s47 s48 : Value} {A : Option Addr} {N C k x v b off cap m : Nat} {out : Nat → List Nat}

set_option maxHeartbeats 8000000 in
set_option maxRecDepth 100000 in
theorem cyC 
    (hF : Fr38 a (.pointer (some ⟨H, 0, Option.none⟩)) (.int .i64 (s : Nat)) (.slice (some ⟨PB, 0, Option.none⟩) n n) (s6) (s7) (s9) (s46) (s47) (s48))
    (hZ : ∀ a', Fr38 a' (.pointer (some ⟨H, 0, Option.none⟩)) (.int .i64 (s : Nat)) (.slice (some ⟨PB, 0, Option.none⟩) n n) (.slice (some ⟨w.heap.size, 0, Option.none⟩) 1 1) (s7) (s9) (s46) (s47) (s48) → Q .normal a' (w.alloc (.cells #[.int .i64 (s : Nat)] 3))) :
    Code.wp Try.prog (headC (stm Try.f38.body 6)) Q a w := by
  have HZ := hide hZ
  clear hZ 
  refine fr_open38 (fun a => Code.wp Try.prog (headC (stm Try.f38.body 6)) Q a w) a hF ?_
  intro u0 u2 u5 u8 u10 u11 u12 u13 u14 u15 u16 u17 u18 u19 u20 u21 u22 u23 u24 u25 u26 u27 u28 u29 u30 u31 u32 u33 u34 u35 u36 u37 u38 u39 u40 u41 u42 u43 u44 u45 u49 u50 u51 u52 u53 u54 u55 u56 u57 u58 u59 u60 u61 u62 u63 u64 u65 u66 u67 u68 u69 u70 u71 u72 u73 u74
  dsimp only
  conv => arg 2; whnf
  go_wp2_with fail
  exact unhide HZ _ ⟨rfl, rfl, rfl, rfl, rfl, rfl, rfl, rfl, rfl, rfl, rfl⟩

set_option maxHeartbeats 8000000 in
set_option maxRecDepth 100000 in
theorem cyD (hF : Fr38 a (.pointer (some ⟨H, 0, Option.none⟩)) (.int .i64 (s : Nat)) (.slice (some ⟨PB, 0, Option.none⟩) n n) (.slice (some ⟨b, off, Option.none⟩) m cap) (s7) (s9) (s46) (s47) (s48))
    (h1 : 0 < m → ∀ a', Fr38 a' (.pointer (some ⟨H, 0, Option.none⟩)) (.int .i64 (s : Nat)) (.slice (some ⟨PB, 0, Option.none⟩) n n) (.slice (some ⟨b, off, Option.none⟩) m cap) (s7) (s9) (s46) (s47) (s48) → Q .normal a' w)
    (h2 : m = 0 → ∀ a', Fr38 a' (.pointer (some ⟨H, 0, Option.none⟩)) (.int .i64 (s : Nat)) (.slice (some ⟨PB, 0, Option.none⟩) n n) (.slice (some ⟨b, off, Option.none⟩) m cap) (s7) (s9) (s46) (s47) (s48) → Q (.exit 2) a' w) :
    Code.wp Try.prog (headC (innerC (innerC (tailC (stm Try.f38.body 6))))) Q a w := by
  by_cases hc : 0 < m
  · have HZ := hide (h1 hc)
    have t1 : (0 : Int) < (m : Int) := by omega
    clear h1 h2 hc
    refine fr_open38 (fun a => Code.wp Try.prog (headC (innerC (innerC (tailC (stm Try.f38.body 6))))) Q a w) a hF ?_
    intro u0 u2 u5 u8 u10 u11 u12 u13 u14 u15 u16 u17 u18 u19 u20 u21 u22 u23 u24 u25 u26 u27 u28 u29 u30 u31 u32 u33 u34 u35 u36 u37 u38 u39 u40 u41 u42 u43 u44 u45 u49 u50 u51 u52 u53 u54 u55 u56 u57 u58 u59 u60 u61 u62 u63 u64 u65 u66 u67 u68 u69 u70 u71 u72 u73 u74
    dsimp only
    conv => arg 2; whnf
    go_wp2_with fail
    exact unhide HZ _ ⟨rfl, rfl, rfl, rfl, rfl, rfl, rfl, rfl, rfl, rfl, rfl⟩
  · obtain rfl : m = 0 := by omega
    have HZ := hide (h2 rfl)
    clear h1 h2 hc
    refine fr_open38 (fun a => Code.wp Try.prog (headC (innerC (innerC (tailC (stm Try.f38.body 6))))) Q a w) a hF ?_
    intro u0 u2 u5 u8 u10 u11 u12 u13 u14 u15 u16 u17 u18 u19 u20 u21 u22 u23 u24 u25 u26 u27 u28 u29 u30 u31 u32 u33 u34 u35 u36 u37 u38 u39 u40 u41 u42 u43 u44 u45 u49 u50 u51 u52 u53 u54 u55 u56 u57 u58 u59 u60 u61 u62 u63 u64 u65 u66 u67 u68 u69 u70 u71 u72 u73 u74
    dsimp only
    conv => arg 2; whnf
    go_wp2_with fail
    exact unhide HZ _ ⟨rfl, rfl, rfl, rfl, rfl, rfl, rfl, rfl, rfl, rfl, rfl⟩

set_option maxHeartbeats 8000000 in
set_option maxRecDepth 100000 in
theorem cyE (hm : 0 < m) (hc : w.cell? ⟨b, off, Option.none⟩ = some (.int .i64 (x : Nat)))
    (hF : Fr38 a (.pointer (some ⟨H, 0, Option.none⟩)) (.int .i64 (s : Nat)) (.slice (some ⟨PB, 0, Option.none⟩) n n) (.slice (some ⟨b, off, Option.none⟩) m cap) (s7) (s9) (s46) (s47) (s48))
    (hZ : ∀ a', Fr38 a' (.pointer (some ⟨H, 0, Option.none⟩)) (.int .i64 (s : Nat)) (.slice (some ⟨PB, 0, Option.none⟩) n n) (.slice (some ⟨b, off, Option.none⟩) m cap) (.int .i64 (x : Nat)) (s9) (s46) (s47) (s48) → Q .normal a' w) :
    Code.wp Try.prog (headC (innerC (headC (tailC (innerC (innerC (tailC (stm Try.f38.body 6)))))))) Q a w := by
  have HZ := hide hZ
  have lm : (0 : Int) < (m : Int) := by omega
  clear hZ 
  refine fr_open38 (fun a => Code.wp Try.prog (headC (innerC (headC (tailC (innerC (innerC (tailC (stm Try.f38.body 6)))))))) Q a w) a hF ?_
  intro u0 u2 u5 u8 u10 u11 u12 u13 u14 u15 u16 u17 u18 u19 u20 u21 u22 u23 u24 u25 u26 u27 u28 u29 u30 u31 u32 u33 u34 u35 u36 u37 u38 u39 u40 u41 u42 u43 u44 u45 u49 u50 u51 u52 u53 u54 u55 u56 u57 u58 u59 u60 u61 u62 u63 u64 u65 u66 u67 u68 u69 u70 u71 u72 u73 u74
  dsimp only
  conv => arg 2; whnf
  go_wp2_with fail
  exact unhide HZ _ ⟨rfl, rfl, rfl, rfl, rfl, rfl, rfl, rfl, rfl, rfl, rfl⟩

set_option maxHeartbeats 8000000 in
set_option maxRecDepth 100000 in
theorem cyF (h : w.rowIs H 51 2 (fun i => if i = 0 then .slice na n nc else .slice oa n oc)) (hv : v < n) (hg : ∃ b off, oa = some ⟨b, off, Option.none⟩ ∧ w.cell? ⟨b, off + v, Option.none⟩ = some (.slice A N C))
    (hF : Fr38 a (.pointer (some ⟨H, 0, Option.none⟩)) (.int .i64 (s : Nat)) (.slice (some ⟨PB, 0, Option.none⟩) n n) (s6) (.int .i64 (v : Nat)) (s9) (s46) (s47) (s48))
    (hZ : ∀ a', Fr38 a' (.pointer (some ⟨H, 0, Option.none⟩)) (.int .i64 (s : Nat)) (.slice (some ⟨PB, 0, Option.none⟩) n n) (s6) (.int .i64 (v : Nat)) (s9) (.slice A N C) (.int .i64 (N : Nat)) (.int .i64 0) → Q .normal a' w) :
    Code.wp Try.prog (headC (tailC (innerC (headC (tailC (innerC (innerC (tailC (stm Try.f38.body 6))))))))) Q a w := by
  have HZ := hide hZ
  obtain ⟨b, off, rfl, hg⟩ := hg
  have c1 := h.cell (i := 1) (by omega)
  rw [if_neg (by decide)] at c1
  have lv : (v : Int) < (n : Int) := by omega
  clear hZ h
  refine fr_open38 (fun a => Code.wp Try.prog (headC (tailC (innerC (headC (tailC (innerC (innerC (tailC (stm Try.f38.body 6))))))))) Q a w) a hF ?_
  intro u0 u2 u5 u8 u10 u11 u12 u13 u14 u15 u16 u17 u18 u19 u20 u21 u22 u23 u24 u25 u26 u27 u28 u29 u30 u31 u32 u33 u34 u35 u36 u37 u38 u39 u40 u41 u42 u43 u44 u45 u49 u50 u51 u52 u53 u54 u55 u56 u57 u58 u59 u60 u61 u62 u63 u64 u65 u66 u67 u68 u69 u70 u71 u72 u73 u74
  dsimp only
  conv => arg 2; whnf
  go_wp2_with fail
  exact unhide HZ _ ⟨rfl, rfl, rfl, rfl, rfl, rfl, rfl, rfl, rfl, rfl, rfl⟩

set_option maxHeartbeats 8000000 in
set_option maxRecDepth 100000 in
theorem cyG (X : Code) 
    (hF : Fr38 a (.pointer (some ⟨H, 0, Option.none⟩)) (.int .i64 (s : Nat)) (.slice (some ⟨PB, 0, Option.none⟩) n n) (s6) (s7) (s9) (.slice A N C) (.int .i64 (N : Nat)) (.int .i64 (k : Nat)))
    (h1 : k < N → ∀ a', Fr38 a' (.pointer (some ⟨H, 0, Option.none⟩)) (.int .i64 (s : Nat)) (.slice (some ⟨PB, 0, Option.none⟩) n n) (s6) (s7) (s9) (.slice A N C) (.int .i64 (N : Nat)) (.int .i64 (k : Nat)) → Code.wp Try.prog X Q a' w)
    (h2 : ¬ k < N → ∀ a', Fr38 a' (.pointer (some ⟨H, 0, Option.none⟩)) (.int .i64 (s : Nat)) (.slice (some ⟨PB, 0, Option.none⟩) n n) (s6) (s7) (s9) (.slice A N C) (.int .i64 (N : Nat)) (.int .i64 (k : Nat)) → Q (.exit 4) a' w) :
    Code.wp Try.prog (.seq (headC (innerC (innerC (tailC (tailC (innerC (headC (tailC (innerC (innerC (tailC (stm Try.f38.body 6)))))))))))) (.seq (headC (tailC (innerC (innerC (tailC (tailC (innerC (headC (tailC (innerC (innerC (tailC (stm Try.f38.body 6))))))))))))) X)) Q a w := by
  by_cases hk : k < N
  · have HZ := hide (h1 hk)
    have lk : ((k : Nat) : Int) < ((N : Nat) : Int) := by omega
    clear h1 h2 hk
    refine fr_open38 (fun a => Code.wp Try.prog (.seq (headC (innerC (innerC (tailC (tailC (innerC (headC (tailC (innerC (innerC (tailC (stm Try.f38.body 6)))))))))))) (.seq (headC (tailC (innerC (innerC (tailC (tailC (innerC (headC (tailC (innerC (innerC (tailC (stm Try.f38.body 6))))))))))))) X)) Q a w) a hF ?_
    intro u0 u2 u5 u8 u10 u11 u12 u13 u14 u15 u16 u17 u18 u19 u20 u21 u22 u23 u24 u25 u26 u27 u28 u29 u30 u31 u32 u33 u34 u35 u36 u37 u38 u39 u40 u41 u42 u43 u44 u45 u49 u50 u51 u52 u53 u54 u55 u56 u57 u58 u59 u60 u61 u62 u63 u64 u65 u66 u67 u68 u69 u70 u71 u72 u73 u74
    dsimp only
    conv => arg 2; arg 1; whnf
    conv => arg 2; arg 2; arg 1; whnf
    go_wp2_with fail
    exact unhide HZ _ ⟨rfl, rfl, rfl, rfl, rfl, rfl, rfl, rfl, rfl, rfl, rfl⟩
  · have HZ := hide (h2 hk)
    have lk : ¬ ((k : Nat) : Int) < ((N : Nat) : Int) := by omega
    clear h1 h2 hk
    refine fr_open38 (fun a => Code.wp Try.prog (.seq (headC (innerC (innerC (tailC (tailC (innerC (headC (tailC (innerC (innerC (tailC (stm Try.f38.body 6)))))))))))) (.seq (headC (tailC (innerC (innerC (tailC (tailC (innerC (headC (tailC (innerC (innerC (tailC (stm Try.f38.body 6))))))))))))) X)) Q a w) a hF ?_
    intro u0 u2 u5 u8 u10 u11 u12 u13 u14 u15 u16 u17 u18 u19 u20 u21 u22 u23 u24 u25 u26 u27 u28 u29 u30 u31 u32 u33 u34 u35 u36 u37 u38 u39 u40 u41 u42 u43 u44 u45 u49 u50 u51 u52 u53 u54 u55 u56 u57 u58 u59 u60 u61 u62 u63 u64 u65 u66 u67 u68 u69 u70 u71 u72 u73 u74
    dsimp only
    conv => arg 2; arg 1; whnf
    conv => arg 2; arg 2; arg 1; whnf
    go_wp2_with fail
    exact unhide HZ _ ⟨rfl, rfl, rfl, rfl, rfl, rfl, rfl, rfl, rfl, rfl, rfl⟩

set_option maxHeartbeats 8000000 in
set_option maxRecDepth 100000 in
theorem cyH (hk : k < N) (hg : ∃ b off, A = some ⟨b, off, Option.none⟩ ∧ w.cell? ⟨b, off + k, Option.none⟩ = some (.int .i64 (x : Nat)))
    (hF : Fr38 a (.pointer (some ⟨H, 0, Option.none⟩)) (.int .i64 (s : Nat)) (.slice (some ⟨PB, 0, Option.none⟩) n n) (s6) (s7) (s9) (.slice A N C) (.int .i64 (N : Nat)) (.int .i64 (k : Nat)))
    (hZ : ∀ a', Fr38 a' (.pointer (some ⟨H, 0, Option.none⟩)) (.int .i64 (s : Nat)) (.slice (some ⟨PB, 0, Option.none⟩) n n) (s6) (s7) (.int .i64 (x : Nat)) (.slice A N C) (.int .i64 (N : Nat)) (.int .i64 (k : Nat)) → Q .normal a' w) :
    Code.wp Try.prog (headC (innerC (headC (tailC (tailC (innerC (innerC (tailC (tailC (innerC (headC (tailC (innerC (innerC (tailC (stm Try.f38.body 6)))))))))))))))) Q a w := by
  have HZ := hide hZ
  obtain ⟨b, off, rfl, hg⟩ := hg
  have lk : (k : Int) < (N : Int) := by omega
  clear hZ 
  refine fr_open38 (fun a => Code.wp Try.prog (headC (innerC (headC (tailC (tailC (innerC (innerC (tailC (tailC (innerC (headC (tailC (innerC (innerC (tailC (stm Try.f38.body 6)))))))))))))))) Q a w) a hF ?_
  intro u0 u2 u5 u8 u10 u11 u12 u13 u14 u15 u16 u17 u18 u19 u20 u21 u22 u23 u24 u25 u26 u27 u28 u29 u30 u31 u32 u33 u34 u35 u36 u37 u38 u39 u40 u41 u42 u43 u44 u45 u49 u50 u51 u52 u53 u54 u55 u56 u57 u58 u59 u60 u61 u62 u63 u64 u65 u66 u67 u68 u69 u70 u71 u72 u73 u74
  dsimp only
  conv => arg 2; whnf
  go_wp2_with fail
  exact unhide HZ _ ⟨rfl, rfl, rfl, rfl, rfl, rfl, rfl, rfl, rfl, rfl, rfl⟩

set_option maxHeartbeats 8000000 in
set_option maxRecDepth 100000 in
theorem cyI (X Y : Code) 
    (hF : Fr38 a (.pointer (some ⟨H, 0, Option.none⟩)) (.int .i64 (s : Nat)) (.slice (some ⟨PB, 0, Option.none⟩) n n) (s6) (s7) (.int .i64 (x : Nat)) (s46) (s47) (s48))
    (h1 : x = s → ∀ a', Fr38 a' (.pointer (some ⟨H, 0, Option.none⟩)) (.int .i64 (s : Nat)) (.slice (some ⟨PB, 0, Option.none⟩) n n) (s6) (s7) (.int .i64 (x : Nat)) (s46) (s47) (s48) → Code.wp Try.prog X Q a' w)
    (h2 : ¬ x = s → ∀ a', Fr38 a' (.pointer (some ⟨H, 0, Option.none⟩)) (.int .i64 (s : Nat)) (.slice (some ⟨PB, 0, Option.none⟩) n n) (s6) (s7) (.int .i64 (x : Nat)) (s46) (s47) (s48) → Code.wp Try.prog Y Q a' w) :
    Code.wp Try.prog (.seq (headC (headC (tailC (innerC (headC (tailC (tailC (innerC (innerC (tailC (tailC (innerC (headC (tailC (innerC (innerC (tailC (stm Try.f38.body 6)))))))))))))))))) (.cond (.tmp 54) X Y)) Q a w := by
  by_cases hc : x = s
  · have HZ := hide (h1 hc)
    subst hc
    clear h1 h2 
    refine fr_open38 (fun a => Code.wp Try.prog (.seq (headC (headC (tailC (innerC (headC (tailC (tailC (innerC (innerC (tailC (tailC (innerC (headC (tailC (innerC (innerC (tailC (stm Try.f38.body 6)))))))))))))))))) (.cond (.tmp 54) X Y)) Q a w) a hF ?_
    intro u0 u2 u5 u8 u10 u11 u12 u13 u14 u15 u16 u17 u18 u19 u20 u21 u22 u23 u24 u25 u26 u27 u28 u29 u30 u31 u32 u33 u34 u35 u36 u37 u38 u39 u40 u41 u42 u43 u44 u45 u49 u50 u51 u52 u53 u54 u55 u56 u57 u58 u59 u60 u61 u62 u63 u64 u65 u66 u67 u68 u69 u70 u71 u72 u73 u74
    dsimp only
    conv => arg 2; arg 1; whnf
    go_wp2_with fail
    exact unhide HZ _ ⟨rfl, rfl, rfl, rfl, rfl, rfl, rfl, rfl, rfl, rfl, rfl⟩
  · have HZ := hide (h2 hc)
    have t1 : ¬ ((x : Nat) : Int) = (s : Int) := by omega
    clear h1 h2 
    refine fr_open38 (fun a => Code.wp Try.prog (.seq (headC (headC (tailC (innerC (headC (tailC (tailC (innerC (innerC (tailC (tailC (innerC (headC (tailC (innerC (innerC (tailC (stm Try.f38.body 6)))))))))))))))))) (.cond (.tmp 54) X Y)) Q a w) a hF ?_
    intro u0 u2 u5 u8 u10 u11 u12 u13 u14 u15 u16 u17 u18 u19 u20 u21 u22 u23 u24 u25 u26 u27 u28 u29 u30 u31 u32 u33 u34 u35 u36 u37 u38 u39 u40 u41 u42 u43 u44 u45 u49 u50 u51 u52 u53 u54 u55 u56 u57 u58 u59 u60 u61 u62 u63 u64 u65 u66 u67 u68 u69 u70 u71 u72 u73 u74
    dsimp only
    conv => arg 2; arg 1; whnf
    go_wp2_with fail
    exact unhide HZ _ ⟨rfl, rfl, rfl, rfl, rfl, rfl, rfl, rfl, rfl, rfl, rfl⟩

set_option maxHeartbeats 8000000 in
set_option maxRecDepth 100000 in
theorem cyK (X Y : Code) {p : Int} (hx : x < n) (d1 : w.cell? ⟨PB, x, Option.none⟩ = some (.int .i64 p))
    (hF : Fr38 a (.pointer (some ⟨H, 0, Option.none⟩)) (.int .i64 (s : Nat)) (.slice (some ⟨PB, 0, Option.none⟩) n n) (s6) (s7) (.int .i64 (x : Nat)) (s46) (s47) (s48))
    (h1 : p < 0 → ∀ a', Fr38 a' (.pointer (some ⟨H, 0, Option.none⟩)) (.int .i64 (s : Nat)) (.slice (some ⟨PB, 0, Option.none⟩) n n) (s6) (s7) (.int .i64 (x : Nat)) (s46) (s47) (s48) → Code.wp Try.prog X Q a' w)
    (h2 : ¬ p < 0 → ∀ a', Fr38 a' (.pointer (some ⟨H, 0, Option.none⟩)) (.int .i64 (s : Nat)) (.slice (some ⟨PB, 0, Option.none⟩) n n) (s6) (s7) (.int .i64 (x : Nat)) (s46) (s47) (s48) → Code.wp Try.prog Y Q a' w) :
    Code.wp Try.prog (.seq (headC (tailC (tailC (innerC (headC (tailC (tailC (innerC (innerC (tailC (tailC (innerC (headC (tailC (innerC (innerC (tailC (stm Try.f38.body 6)))))))))))))))))) (.cond (.tmp 64) X Y)) Q a w := by
  have lx : (x : Int) < (n : Int) := by omega
  by_cases hc : p < 0
  · have HZ := hide (h1 hc)
    have t1 : decide (p < 0) = true := decide_eq_true hc
    clear h1 h2 
    refine fr_open38 (fun a => Code.wp Try.prog (.seq (headC (tailC (tailC (innerC (headC (tailC (tailC (innerC (innerC (tailC (tailC (innerC (headC (tailC (innerC (innerC (tailC (stm Try.f38.body 6)))))))))))))))))) (.cond (.tmp 64) X Y)) Q a w) a hF ?_
    intro u0 u2 u5 u8 u10 u11 u12 u13 u14 u15 u16 u17 u18 u19 u20 u21 u22 u23 u24 u25 u26 u27 u28 u29 u30 u31 u32 u33 u34 u35 u36 u37 u38 u39 u40 u41 u42 u43 u44 u45 u49 u50 u51 u52 u53 u54 u55 u56 u57 u58 u59 u60 u61 u62 u63 u64 u65 u66 u67 u68 u69 u70 u71 u72 u73 u74
    dsimp only
    conv => arg 2; arg 1; whnf
    go_wp2_with fail
    exact unhide HZ _ ⟨rfl, rfl, rfl, rfl, rfl, rfl, rfl, rfl, rfl, rfl, rfl⟩
  · have HZ := hide (h2 hc)
    have t1 : decide (p < 0) = false := decide_eq_false hc
    clear h1 h2 
    refine fr_open38 (fun a => Code.wp Try.prog (.seq (headC (tailC (tailC (innerC (headC (tailC (tailC (innerC (innerC (tailC (tailC (innerC (headC (tailC (innerC (innerC (tailC (stm Try.f38.body 6)))))))))))))))))) (.cond (.tmp 64) X Y)) Q a w) a hF ?_
    intro u0 u2 u5 u8 u10 u11 u12 u13 u14 u15 u16 u17 u18 u19 u20 u21 u22 u23 u24 u25 u26 u27 u28 u29 u30 u31 u32 u33 u34 u35 u36 u37 u38 u39 u40 u41 u42 u43 u44 u45 u49 u50 u51 u52 u53 u54 u55 u56 u57 u58 u59 u60 u61 u62 u63 u64 u65 u66 u67 u68 u69 u70 u71 u72 u73 u74
    dsimp only
    conv => arg 2; arg 1; whnf
    go_wp2_with fail
    exact unhide HZ _ ⟨rfl, rfl, rfl, rfl, rfl, rfl, rfl, rfl, rfl, rfl, rfl⟩

set_option maxHeartbeats 8000000 in
set_option maxRecDepth 100000 in
theorem cyL {g : Nat → Value} (h : w.rowIs PB 3 n g) (hx : x < n)
    (hF : Fr38 a (.pointer (some ⟨H, 0, Option.none⟩)) (.int .i64 (s : Nat)) (.slice (some ⟨PB, 0, Option.none⟩) n n) (s6) (.int .i64 (v : Nat)) (.int .i64 (x : Nat)) (s46) (s47) (s48))
    (hZ : ∀ a', Fr38 a' (.pointer (some ⟨H, 0, Option.none⟩)) (.int .i64 (s : Nat)) (.slice (some ⟨PB, 0, Option.none⟩) n n) (s6) (.int .i64 (v : Nat)) (.int .i64 (x : Nat)) (s46) (s47) (s48) → Q .normal a' (w.setCell ⟨PB, x, Option.none⟩ (.int .i64 (v : Nat)))) :
    Code.wp Try.prog (headC (condT (tailC (tailC (tailC (innerC (headC (tailC (tailC (innerC (innerC (tailC (tailC (innerC (headC (tailC (innerC (innerC (tailC (stm Try.f38.body 6)))))))))))))))))))) Q a w := by
  have HZ := hide hZ
  have d1 := h.cell (i := x) hx
  have f1 := h.frozen x
  have lx : (x : Int) < (n : Int) := by omega
  clear hZ h
  refine fr_open38 (fun a => Code.wp Try.prog (headC (condT (tailC (tailC (tailC (innerC (headC (tailC (tailC (innerC (innerC (tailC (tailC (innerC (headC (tailC (innerC (innerC (tailC (stm Try.f38.body 6)))))))))))))))))))) Q a w) a hF ?_
  intro u0 u2 u5 u8 u10 u11 u12 u13 u14 u15 u16 u17 u18 u19 u20 u21 u22 u23 u24 u25 u26 u27 u28 u29 u30 u31 u32 u33 u34 u35 u36 u37 u38 u39 u40 u41 u42 u43 u44 u45 u49 u50 u51 u52 u53 u54 u55 u56 u57 u58 u59 u60 u61 u62 u63 u64 u65 u66 u67 u68 u69 u70 u71 u72 u73 u74
  dsimp only
  conv => arg 2; whnf
  go_wp2_with fail
  exact unhide HZ _ ⟨rfl, rfl, rfl, rfl, rfl, rfl, rfl, rfl, rfl, rfl, rfl⟩

set_option maxHeartbeats 8000000 in
set_option maxRecDepth 100000 in
theorem cyM {b' off' c' : Nat} {w' : World} (hrun : (Builtin.append_ #[22, 22] 22 #[.slice (some ⟨b, off, Option.none⟩) m cap, .slice (some ⟨w.heap.size, 0, Option.none⟩) 1 1]).run Try.prog (w.alloc (.cells #[.int .i64 (x : Nat)] 3)) = .ok (.slice (some ⟨b', off', Option.none⟩) (m + 1) c') w')
    (hF : Fr38 a (.pointer (some ⟨H, 0, Option.none⟩)) (.int .i64 (s : Nat)) (.slice (some ⟨PB, 0, Option.none⟩) n n) (.slice (some ⟨b, off, Option.none⟩) m cap) (s7) (.int .i64 (x : Nat)) (s46) (s47) (s48))
    (hZ : ∀ a', Fr38 a' (.pointer (some ⟨H, 0, Option.none⟩)) (.int .i64 (s : Nat)) (.slice (some ⟨PB, 0, Option.none⟩) n n) (.slice (some ⟨b', off', Option.none⟩) (m + 1) c') (s7) (.int .i64 (x : Nat)) (s46) (s47) (s48) → Q .normal a' w') :
    Code.wp Try.prog (tailC (condT (tailC (tailC (tailC (innerC (headC (tailC (tailC (innerC (innerC (tailC (tailC (innerC (headC (tailC (innerC (innerC (tailC (stm Try.f38.body 6)))))))))))))))))))) Q a w := by
  have HZ := hide hZ
  clear hZ 
  refine fr_open38 (fun a => Code.wp Try.prog (tailC (condT (tailC (tailC (tailC (innerC (headC (tailC (tailC (innerC (innerC (tailC (tailC (innerC (headC (tailC (innerC (innerC (tailC (stm Try.f38.body 6)))))))))))))))))))) Q a w) a hF ?_
  intro u0 u2 u5 u8 u10 u11 u12 u13 u14 u15 u16 u17 u18 u19 u20 u21 u22 u23 u24 u25 u26 u27 u28 u29 u30 u31 u32 u33 u34 u35 u36 u37 u38 u39 u40 u41 u42 u43 u44 u45 u49 u50 u51 u52 u53 u54 u55 u56 u57 u58 u59 u60 u61 u62 u63 u64 u65 u66 u67 u68 u69 u70 u71 u72 u73 u74
  dsimp only
  conv => arg 2; whnf
  go_wp2_with (at_builtin; refine Lib.wpList_append_run _ rfl _ _ _ _ rfl _ _ rfl rfl _ _ hrun ?_)
  exact unhide HZ _ ⟨rfl, rfl, rfl, rfl, rfl, rfl, rfl, rfl, rfl, rfl, rfl⟩

set_option maxHeartbeats 8000000 in
set_option maxRecDepth 100000 in
theorem cyN (hk : k < N) (hN : N ≤ 1048576)
    (hF : Fr38 a (.pointer (some ⟨H, 0, Option.none⟩)) (.int .i64 (s : Nat)) (.slice (some ⟨PB, 0, Option.none⟩) n n) (s6) (s7) (s9) (.slice A N C) (.int .i64 (N : Nat)) (.int .i64 (k : Nat)))
    (hZ : ∀ a', Fr38 a' (.pointer (some ⟨H, 0, Option.none⟩)) (.int .i64 (s : Nat)) (.slice (some ⟨PB, 0, Option.none⟩) n n) (s6) (s7) (s9) (.slice A N C) (.int .i64 (N : Nat)) (.int .i64 ((k + 1 : Nat) : Int)) → Q .normal a' w) :
    Code.wp Try.prog (tailC (tailC (tailC (innerC (innerC (tailC (tailC (innerC (headC (tailC (innerC (innerC (tailC (stm Try.f38.body 6)))))))))))))) Q a w := by
  have HZ := hide hZ
  clear hZ 
  refine fr_open38 (fun a => Code.wp Try.prog (tailC (tailC (tailC (innerC (innerC (tailC (tailC (innerC (headC (tailC (innerC (innerC (tailC (stm Try.f38.body 6)))))))))))))) Q a w) a hF ?_
  intro u0 u2 u5 u8 u10 u11 u12 u13 u14 u15 u16 u17 u18 u19 u20 u21 u22 u23 u24 u25 u26 u27 u28 u29 u30 u31 u32 u33 u34 u35 u36 u37 u38 u39 u40 u41 u42 u43 u44 u45 u49 u50 u51 u52 u53 u54 u55 u56 u57 u58 u59 u60 u61 u62 u63 u64 u65 u66 u67 u68 u69 u70 u71 u72 u73 u74
  dsimp only
  conv => arg 2; whnf
  go_wp2_with fail
  exact unhide HZ _ ⟨rfl, rfl, rfl, rfl, rfl, rfl, rfl, rfl, rfl, rfl, rfl⟩

set_option maxHeartbeats 8000000 in
set_option maxRecDepth 100000 in
theorem cyO (hc : ¬ cap = 1) (hm : m + 1 ≤ cap)
    (hF : Fr38 a (.pointer (some ⟨H, 0, Option.none⟩)) (.int .i64 (s : Nat)) (.slice (some ⟨PB, 0, Option.none⟩) n n) (.slice (some ⟨b, off, Option.none⟩) (m + 1) cap) (s7) (s9) (s46) (s47) (s48))
    (hZ : ∀ a', Fr38 a' (.pointer (some ⟨H, 0, Option.none⟩)) (.int .i64 (s : Nat)) (.slice (some ⟨PB, 0, Option.none⟩) n n) (.slice (some ⟨b, (off + 1), Option.none⟩) m (cap - 1)) (s7) (s9) (s46) (s47) (s48) → Q .normal a' w) :
    Code.wp Try.prog (tailC (tailC (innerC (innerC (tailC (stm Try.f38.body 6)))))) Q a w := by
  have HZ := hide hZ
  have l1 : (1 : Int) ≤ ((m + 1 : Nat) : Int) := by omega
  have l2 : ¬ 1 = cap := by omega
  have l3 : ¬ cap - 1 = 0 := by omega
  clear hZ 
  refine fr_open38 (fun a => Code.wp Try.prog (tailC (tailC (innerC (innerC (tailC (stm Try.f38.body 6)))))) Q a w) a hF ?_
  intro u0 u2 u5 u8 u10 u11 u12 u13 u14 u15 u16 u17 u18 u19 u20 u21 u22 u23 u24 u25 u26 u27 u28 u29 u30 u31 u32 u33 u34 u35 u36 u37 u38 u39 u40 u41 u42 u43 u44 u45 u49 u50 u51 u52 u53 u54 u55 u56 u57 u58 u59 u60 u61 u62 u63 u64 u65 u66 u67 u68 u69 u70 u71 u72 u73 u74
  dsimp only
  conv => arg 2; whnf
  go_wp2_with fail
  exact unhide HZ _ ⟨rfl, rfl, rfl, rfl, rfl, rfl, rfl, rfl, rfl, rfl, rfl⟩

set_option maxHeartbeats 8000000 in
set_option maxRecDepth 100000 in
theorem cyO1 
    (hF : Fr38 a (.pointer (some ⟨H, 0, Option.none⟩)) (.int .i64 (s : Nat)) (.slice (some ⟨PB, 0, Option.none⟩) n n) (.slice (some ⟨b, off, Option.none⟩) 1 1) (s7) (s9) (s46) (s47) (s48))
    (hZ : ∀ a', Fr38 a' (.pointer (some ⟨H, 0, Option.none⟩)) (.int .i64 (s : Nat)) (.slice (some ⟨PB, 0, Option.none⟩) n n) (.slice (some ⟨b, off, Option.none⟩) 0 0) (s7) (s9) (s46) (s47) (s48) → Q .normal a' w) :
    Code.wp Try.prog (tailC (tailC (innerC (innerC (tailC (stm Try.f38.body 6)))))) Q a w := by
  have HZ := hide hZ
  clear hZ 
  refine fr_open38 (fun a => Code.wp Try.prog (tailC (tailC (innerC (innerC (tailC (stm Try.f38.body 6)))))) Q a w) a hF ?_
  intro u0 u2 u5 u8 u10 u11 u12 u13 u14 u15 u16 u17 u18 u19 u20 u21 u22 u23 u24 u25 u26 u27 u28 u29 u30 u31 u32 u33 u34 u35 u36 u37 u38 u39 u40 u41 u42 u43 u44 u45 u49 u50 u51 u52 u53 u54 u55 u56 u57 u58 u59 u60 u61 u62 u63 u64 u65 u66 u67 u68 u69 u70 u71 u72 u73 u74
  dsimp only
  conv => arg 2; whnf
  go_wp2_with fail
  exact unhide HZ _ ⟨rfl, rfl, rfl, rfl, rfl, rfl, rfl, rfl, rfl, rfl, rfl⟩

set_option maxHeartbeats 8000000 in
set_option maxRecDepth 100000 in
theorem cyJ (R : Ending → World → Prop) (h : w.rowIs H 51 2 (fun i => if i = 0 then .slice na n nc else .slice oa n oc)) (hcall : Calls Try.prog 43 #[.agg #[.slice na n nc, .slice oa n oc], .slice (some ⟨PB, 0, Option.none⟩) n n, .int .i64 (v : Nat), .int .i64 (s : Nat)] w R)
    (hF : Fr38 a (.pointer (some ⟨H, 0, Option.none⟩)) (.int .i64 (s : Nat)) (.slice (some ⟨PB, 0, Option.none⟩) n n) (s6) (.int .i64 (v : Nat)) (s9) (s46) (s47) (s48))
    (hR : ∀ e w', R e w' → ∃ v', e = .returned v')
    (hZ : ∀ a' w' v', a'.defers = [] → a'.tmps.getD 2 undef = v' → R (.returned v') w' → Q .ret a' w') :
    Code.wp Try.prog (condT (tailC (headC (tailC (innerC (headC (tailC (tailC (innerC (innerC (tailC (tailC (innerC (headC (tailC (innerC (innerC (tailC (stm Try.f38.body 6))))))))))))))))))) Q a w := by
  have HZ := hide hZ
  have HR := hide hR
  have c0 := h.cell (i := 0) (by omega)
  have c1 := h.cell (i := 1) (by omega)
  rw [if_pos rfl] at c0
  rw [if_neg (by decide)] at c1
  clear hZ hR h
  refine fr_open38 (fun a => Code.wp Try.prog (condT (tailC (headC (tailC (innerC (headC (tailC (tailC (innerC (innerC (tailC (tailC (innerC (headC (tailC (innerC (innerC (tailC (stm Try.f38.body 6))))))))))))))))))) Q a w) a hF ?_
  intro u0 u2 u5 u8 u10 u11 u12 u13 u14 u15 u16 u17 u18 u19 u20 u21 u22 u23 u24 u25 u26 u27 u28 u29 u30 u31 u32 u33 u34 u35 u36 u37 u38 u39 u40 u41 u42 u43 u44 u45 u49 u50 u51 u52 u53 u54 u55 u56 u57 u58 u59 u60 u61 u62 u63 u64 u65 u66 u67 u68 u69 u70 u71 u72 u73 u74
  dsimp only
  conv => arg 2; whnf
  go_wp2_with fail
  refine hcall.mono ?_
  intro e w2 hr
  obtain ⟨v', he⟩ := unhide HR e w2 hr
  subst he
  have HQ := hide hr
  clear hr
  go_wp2_with fail
  exact unhide HZ _ _ _ rfl rfl (unhide HQ)

end Go.Proofs.Qxb6602460a
