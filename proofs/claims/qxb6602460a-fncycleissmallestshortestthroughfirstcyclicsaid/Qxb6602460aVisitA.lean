import Derived.Test.Qxb6602460aVisit2
namespace Go.Proofs.Qxb6602460a
open Go.RowKit Go.Maps Go.Own

variable {H n v : Nat} {F : Value} {na oa : Option Addr} {nc oc : Nat} {s : TS} {w : World} {Q : Exit → Act → World → Prop} {a : Act} {s11 s12 s36 s37 s38 : Value} {A : Option Addr} {N C k x : Nat}

set_option maxHeartbeats 8000000 in
set_option maxRecDepth 100000 in
theorem lowA9
    (h : VS w H n F na oa nc oc s) (hv : v < n) (hx : x < n)
    (hF : Fr41b a (.int .i64 (v : Nat)) (.pointer (some ⟨H + 10, 0, Option.none⟩)) (.pointer (some ⟨H + 2, 0, Option.none⟩)) (.pointer (some ⟨H + 4, 0, Option.none⟩)) (.pointer (some ⟨H + 9, 0, Option.none⟩)) (.pointer (some ⟨H + 6, 0, Option.none⟩)) (.pointer (some ⟨H, 0, Option.none⟩)) (.pointer (some ⟨H + 11, 0, Option.none⟩)) (.pointer (some ⟨H + 8, 0, Option.none⟩)) (.int .i64 (x : Nat)) (s36) (s37) (s38))
    (hZ : ∀ a' w', Fr41b a' (.int .i64 (v : Nat)) (.pointer (some ⟨H + 10, 0, Option.none⟩)) (.pointer (some ⟨H + 2, 0, Option.none⟩)) (.pointer (some ⟨H + 4, 0, Option.none⟩)) (.pointer (some ⟨H + 9, 0, Option.none⟩)) (.pointer (some ⟨H + 6, 0, Option.none⟩)) (.pointer (some ⟨H, 0, Option.none⟩)) (.pointer (some ⟨H + 11, 0, Option.none⟩)) (.pointer (some ⟨H + 8, 0, Option.none⟩)) (.int .i64 (x : Nat)) (s36) (s37) (s38) → Below H w w' → VS w' H n F na oa nc oc (tLow v (min (s.low v) (s.low x)) s) → Q .normal a' w') :
    Code.wp Try.prog (lowA (stm Try.f41.body 4)) Q a w := by
  have HZ := hide hZ
  have c1 := h.bl.cell (i := 0) (by omega)
  have c2 := h.bl.cell (i := 0) (by omega)
  have d1 := h.rl.cell (i := v) hv
  have d2 := h.rl.cell (i := x) hx
  have f1 := h.rl.frozen v
  have lv : (v : Int) < (n : Int) := by omega
  have lx : (x : Int) < (n : Int) := by omega
  have HV := hide h
  clear hZ h
  by_cases hm : s.low x < s.low v
  · have hm1 : ((s.low x : Nat) : Int) < ((s.low v : Nat) : Int) := by omega
    have hm2 : min (s.low v) (s.low x) = s.low x := by omega
    rw [hm2] at HZ
    clear hm hm2
    refine fr_open41b (fun a => Code.wp Try.prog (lowA (stm Try.f41.body 4)) Q a w) a hF ?_
    intro u9 u10 u12 u13 u14 u15 u16 u17 u18 u19 u20 u21 u22 u23 u24 u25 u26 u27 u28 u29 u30 u31 u32 u33 u34 u35 u39 u40 u41 u42 u43 u44 u45 u46 u47 u48 u49 u50 u51 u52 u53 u54 u55 u56 u57 u58 u59 u60 u61 u62 u63 u64 u65 u66 u67 u68 u69 u70 u71 u72 u73 u74 u75 u76 u77 u78 u79 u80 u81 u82 u83 u84 u85 u86 u87 u88 u89 u90 u91 u92 u93 u94 u95 u96 u97 u98 u99 u100 u101 u102 u103 u104 u105 u106 u107 u108 u109 u110 u111 u112 u113 u114 u115 u116 u117 u118 u119 u120 u121 u122 u123
    dsimp only
    conv => arg 2; whnf
    go_wp2_with fail
    go_region
    all_goals go_wp2_with fail
    exact unhide HZ _ _ ⟨rfl, rfl, rfl, rfl, rfl, rfl, rfl, rfl, rfl, rfl, rfl, rfl, rfl, rfl, rfl⟩ (below_drewN' ((Below.refl H w).setCell (p := ⟨H + 3, v, Option.none⟩) (Nat.le_add_right _ _) _) 1) (((unhide HV).setLow v _).drewN 1)
  · have hm1 : ¬ ((s.low x : Nat) : Int) < ((s.low v : Nat) : Int) := by omega
    have hm2 : min (s.low v) (s.low x) = s.low v := by omega
    rw [hm2] at HZ
    clear hm hm2
    refine fr_open41b (fun a => Code.wp Try.prog (lowA (stm Try.f41.body 4)) Q a w) a hF ?_
    intro u9 u10 u12 u13 u14 u15 u16 u17 u18 u19 u20 u21 u22 u23 u24 u25 u26 u27 u28 u29 u30 u31 u32 u33 u34 u35 u39 u40 u41 u42 u43 u44 u45 u46 u47 u48 u49 u50 u51 u52 u53 u54 u55 u56 u57 u58 u59 u60 u61 u62 u63 u64 u65 u66 u67 u68 u69 u70 u71 u72 u73 u74 u75 u76 u77 u78 u79 u80 u81 u82 u83 u84 u85 u86 u87 u88 u89 u90 u91 u92 u93 u94 u95 u96 u97 u98 u99 u100 u101 u102 u103 u104 u105 u106 u107 u108 u109 u110 u111 u112 u113 u114 u115 u116 u117 u118 u119 u120 u121 u122 u123
    dsimp only
    conv => arg 2; whnf
    go_wp2_with fail
    go_region
    all_goals go_wp2_with fail
    exact unhide HZ _ _ ⟨rfl, rfl, rfl, rfl, rfl, rfl, rfl, rfl, rfl, rfl, rfl, rfl, rfl, rfl, rfl⟩ (below_drewN' ((Below.refl H w).setCell (p := ⟨H + 3, v, Option.none⟩) (Nat.le_add_right _ _) _) 1) (((unhide HV).setLow v _).drewN 1)

end Go.Proofs.Qxb6602460a
