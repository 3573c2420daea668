import Derived.Test.Qxb6602460aVisit0
namespace Go.Proofs.Qxb6602460a
open Go.RowKit Go.Maps Go.Own

set_option maxHeartbeats 8000000 in
set_option maxRecDepth 100000 in
theorem visit3 (H n v : Nat) (F : Value) (na oa : Option Addr) (nc oc : Nat) (s : TS) (w : World) (Q : Exit → Act → World → Prop) (Z : Code) (a : Act) (s12 : Value)
    (h : VS w H n F na oa nc oc s) (hv : v < n)
    (hF : Fr41 a (.int .i64 (v : Nat)) (.pointer (some ⟨H + 10, 0, Option.none⟩)) (.pointer (some ⟨H + 2, 0, Option.none⟩)) (.pointer (some ⟨H + 4, 0, Option.none⟩)) (.pointer (some ⟨H + 9, 0, Option.none⟩)) (.pointer (some ⟨H + 6, 0, Option.none⟩)) (.pointer (some ⟨H, 0, Option.none⟩)) (.pointer (some ⟨H + 11, 0, Option.none⟩)) (.pointer (some ⟨H + 8, 0, Option.none⟩)) (s12))
    (hZ : ∀ a', Fr41 a' (.int .i64 (v : Nat)) (.pointer (some ⟨H + 10, 0, Option.none⟩)) (.pointer (some ⟨H + 2, 0, Option.none⟩)) (.pointer (some ⟨H + 4, 0, Option.none⟩)) (.pointer (some ⟨H + 9, 0, Option.none⟩)) (.pointer (some ⟨H + 6, 0, Option.none⟩)) (.pointer (some ⟨H, 0, Option.none⟩)) (.pointer (some ⟨H + 11, 0, Option.none⟩)) (.pointer (some ⟨H + 8, 0, Option.none⟩)) (s12) → Code.wp Try.prog Z Q a' (w.setCell ⟨H + 5, v, Option.none⟩ (.bool true))) :
    Code.wp Try.prog (.seq (stm Try.f41.body 3) Z) Q a w := by
  have HZ := hide hZ
  have c1 := h.bt.cell (i := 0) (by omega)
  have d1 := h.rt.cell (i := v) hv
  have f1 := h.rt.frozen v
  have lv : (v : Int) < (n : Int) := by omega
  clear hZ h
  refine fr_open41 (fun a => Code.wp Try.prog (.seq (stm Try.f41.body 3) Z) Q a w) a hF ?_
  intro u9 u10 u11 u13 u14 u15 u16 u17 u18 u19 u20 u21 u22 u23 u24 u25 u26 u27 u28 u29 u30 u31 u32 u33 u34 u35 u36 u37 u38 u39 u40 u41 u42 u43 u44 u45 u46 u47 u48 u49 u50 u51 u52 u53 u54 u55 u56 u57 u58 u59 u60 u61 u62 u63 u64 u65 u66 u67 u68 u69 u70 u71 u72 u73 u74 u75 u76 u77 u78 u79 u80 u81 u82 u83 u84 u85 u86 u87 u88 u89 u90 u91 u92 u93 u94 u95 u96 u97 u98 u99 u100 u101 u102 u103 u104 u105 u106 u107 u108 u109 u110 u111 u112 u113 u114 u115 u116 u117 u118 u119 u120 u121 u122 u123
  dsimp only
  conv => arg 2; arg 1; whnf
  go_wp2_with fail
  exact unhide HZ _ ⟨rfl, rfl, rfl, rfl, rfl, rfl, rfl, rfl, rfl, rfl, rfl, rfl⟩

theorem visit03 (H n v : Nat) (F : Value) (na oa : Option Addr) (nc oc : Nat) (s : TS) (w : World) (Q : Exit → Act → World → Prop) (Z : Code) (a : Act) (s12 : Value)
    (h : VS w H n F na oa nc oc s) (hs : s.step < 65536) (hl : s.stk.length < 65536) (hv : v < n)
    (hF : Fr41 a (.int .i64 (v : Nat)) (.pointer (some ⟨H + 10, 0, Option.none⟩)) (.pointer (some ⟨H + 2, 0, Option.none⟩)) (.pointer (some ⟨H + 4, 0, Option.none⟩)) (.pointer (some ⟨H + 9, 0, Option.none⟩)) (.pointer (some ⟨H + 6, 0, Option.none⟩)) (.pointer (some ⟨H, 0, Option.none⟩)) (.pointer (some ⟨H + 11, 0, Option.none⟩)) (.pointer (some ⟨H + 8, 0, Option.none⟩)) (s12))
    (hZ : ∀ a' w', Fr41 a' (.int .i64 (v : Nat)) (.pointer (some ⟨H + 10, 0, Option.none⟩)) (.pointer (some ⟨H + 2, 0, Option.none⟩)) (.pointer (some ⟨H + 4, 0, Option.none⟩)) (.pointer (some ⟨H + 9, 0, Option.none⟩)) (.pointer (some ⟨H + 6, 0, Option.none⟩)) (.pointer (some ⟨H, 0, Option.none⟩)) (.pointer (some ⟨H + 11, 0, Option.none⟩)) (.pointer (some ⟨H + 8, 0, Option.none⟩)) (s12) → Below H w w' → VS w' H n F na oa nc oc (tStart v s) → Code.wp Try.prog Z Q a' w') :
    Code.wp Try.prog (.seq (stm Try.f41.body 0) (.seq (stm Try.f41.body 1) (.seq (stm Try.f41.body 2) (.seq (stm Try.f41.body 3) Z)))) Q a w := by
  refine visit0 H n v F na oa nc oc s w Q _ a s12 h (Nat.le_of_lt hs) hF fun a1 h1 => ?_
  have v1 := h.setStep (s.step + 1)
  have b1 : Below H w (w.setCell ⟨H + 10, 0, Option.none⟩ (.int .i64 ((s.step + 1 : Nat) : Int))) := (Below.refl H w).setCell (Nat.le_add_right _ _) _
  refine visit1 H n v F na oa nc oc _ _ Q _ a1 s12 v1 hv h1 fun a2 w2 h2 b2 v2 => ?_
  refine visit2 H n v F na oa nc oc _ _ Q _ a2 s12 v2 (Nat.le_of_lt hl) h2 fun a3 w3 h3 b3 v3 => ?_
  refine visit3 H n v F na oa nc oc _ _ Q _ a3 s12 v3 hv h3 fun a4 h4 => ?_
  exact hZ a4 _ h4 (((b1.trans b2).trans b3).setCell (p := ⟨H + 5, v, Option.none⟩) (Nat.le_add_right _ _) _) (v3.setOn v true)

end Go.Proofs.Qxb6602460a
