import Derived.Test.Qxb6602460aVs
namespace Go.Proofs.Qxb6602460a
open Go.RowKit Go.Maps Go.Own

/-! ### The pieces of a function's text -/
def dropC : Nat → Code → Code
  | 0, c => c
  | n + 1, .seq _ b => dropC n b
  | _ + 1, c => c
def headC : Code → Code
  | .seq a _ => a
  | c => c
def tailC : Code → Code
  | .seq _ b => b
  | c => c
def innerC : Code → Code
  | .block _ c => c
  | .loop c => c
  | c => c
/-- A body's j-th statement; what stands from there on. -/
def stm (c : Option Code) (j : Nat) : Code := headC (dropC j (c.getD .skip))
def rst (c : Option Code) (j : Nat) : Code := dropC j (c.getD .skip)

theorem list_all (l : List Value) (n : Nat) (h : l.length = n) : l = (List.range n).map (fun i => l.getD i undef) := by
  apply List.ext_getElem
  · simp [h]
  · intro i h1 h2
    simp [List.getD_eq_getElem?_getD, h1]

structure Fr41 (a : Act) (s0 s1 s2 s3 s4 s5 s6 s7 s8 s12 : Value) : Prop where
  size : a.tmps.size = 124
  defers : a.defers = []
  e0 : a.tmps.getD 0 undef = s0
  e1 : a.tmps.getD 1 undef = s1
  e2 : a.tmps.getD 2 undef = s2
  e3 : a.tmps.getD 3 undef = s3
  e4 : a.tmps.getD 4 undef = s4
  e5 : a.tmps.getD 5 undef = s5
  e6 : a.tmps.getD 6 undef = s6
  e7 : a.tmps.getD 7 undef = s7
  e8 : a.tmps.getD 8 undef = s8
  e12 : a.tmps.getD 12 undef = s12

set_option maxRecDepth 100000 in
theorem range_all41 (f : Nat → Value) : (List.range 124).map f = [f 0, f 1, f 2, f 3, f 4, f 5, f 6, f 7, f 8, f 9, f 10, f 11, f 12, f 13, f 14, f 15, f 16, f 17, f 18, f 19, f 20, f 21, f 22, f 23, f 24, f 25, f 26, f 27, f 28, f 29, f 30, f 31, f 32, f 33, f 34, f 35, f 36, f 37, f 38, f 39, f 40, f 41, f 42, f 43, f 44, f 45, f 46, f 47, f 48, f 49, f 50, f 51, f 52, f 53, f 54, f 55, f 56, f 57, f 58, f 59, f 60, f 61, f 62, f 63, f 64, f 65, f 66, f 67, f 68, f 69, f 70, f 71, f 72, f 73, f 74, f 75, f 76, f 77, f 78, f 79, f 80, f 81, f 82, f 83, f 84, f 85, f 86, f 87, f 88, f 89, f 90, f 91, f 92, f 93, f 94, f 95, f 96, f 97, f 98, f 99, f 100, f 101, f 102, f 103, f 104, f 105, f 106, f 107, f 108, f 109, f 110, f 111, f 112, f 113, f 114, f 115, f 116, f 117, f 118, f 119, f 120, f 121, f 122, f 123] := rfl

set_option maxRecDepth 100000 in
set_option maxHeartbeats 4000000 in
theorem fr_open41 {s0 s1 s2 s3 s4 s5 s6 s7 s8 s12 : Value} (P : Act → Prop) (a : Act) (h : Fr41 a s0 s1 s2 s3 s4 s5 s6 s7 s8 s12) (H : ∀ u9 u10 u11 u13 u14 u15 u16 u17 u18 u19 u20 u21 u22 u23 u24 u25 u26 u27 u28 u29 u30 u31 u32 u33 u34 u35 u36 u37 u38 u39 u40 u41 u42 u43 u44 u45 u46 u47 u48 u49 u50 u51 u52 u53 u54 u55 u56 u57 u58 u59 u60 u61 u62 u63 u64 u65 u66 u67 u68 u69 u70 u71 u72 u73 u74 u75 u76 u77 u78 u79 u80 u81 u82 u83 u84 u85 u86 u87 u88 u89 u90 u91 u92 u93 u94 u95 u96 u97 u98 u99 u100 u101 u102 u103 u104 u105 u106 u107 u108 u109 u110 u111 u112 u113 u114 u115 u116 u117 u118 u119 u120 u121 u122 u123 : Value, P ⟨#[s0, s1, s2, s3, s4, s5, s6, s7, s8, u9, u10, u11, s12, u13, u14, u15, u16, u17, u18, u19, u20, u21, u22, u23, u24, u25, u26, u27, u28, u29, u30, u31, u32, u33, u34, u35, u36, u37, u38, u39, u40, u41, u42, u43, u44, u45, u46, u47, u48, u49, u50, u51, u52, u53, u54, u55, u56, u57, u58, u59, u60, u61, u62, u63, u64, u65, u66, u67, u68, u69, u70, u71, u72, u73, u74, u75, u76, u77, u78, u79, u80, u81, u82, u83, u84, u85, u86, u87, u88, u89, u90, u91, u92, u93, u94, u95, u96, u97, u98, u99, u100, u101, u102, u103, u104, u105, u106, u107, u108, u109, u110, u111, u112, u113, u114, u115, u116, u117, u118, u119, u120, u121, u122, u123], []⟩) : P a := by
  obtain ⟨⟨l⟩, d⟩ := a
  have hs : l.length = 124 := h.size
  have hd : d = [] := h.defers
  subst hd
  have e0 : l.getD 0 undef = s0 := by simpa using h.e0
  have e1 : l.getD 1 undef = s1 := by simpa using h.e1
  have e2 : l.getD 2 undef = s2 := by simpa using h.e2
  have e3 : l.getD 3 undef = s3 := by simpa using h.e3
  have e4 : l.getD 4 undef = s4 := by simpa using h.e4
  have e5 : l.getD 5 undef = s5 := by simpa using h.e5
  have e6 : l.getD 6 undef = s6 := by simpa using h.e6
  have e7 : l.getD 7 undef = s7 := by simpa using h.e7
  have e8 : l.getD 8 undef = s8 := by simpa using h.e8
  have e12 : l.getD 12 undef = s12 := by simpa using h.e12
  subst e0 e1 e2 e3 e4 e5 e6 e7 e8 e12
  have e := (list_all l _ hs).trans (range_all41 _)
  have := H (l.getD 9 undef) (l.getD 10 undef) (l.getD 11 undef) (l.getD 13 undef) (l.getD 14 undef) (l.getD 15 undef) (l.getD 16 undef) (l.getD 17 undef) (l.getD 18 undef) (l.getD 19 undef) (l.getD 20 undef) (l.getD 21 undef) (l.getD 22 undef) (l.getD 23 undef) (l.getD 24 undef) (l.getD 25 undef) (l.getD 26 undef) (l.getD 27 undef) (l.getD 28 undef) (l.getD 29 undef) (l.getD 30 undef) (l.getD 31 undef) (l.getD 32 undef) (l.getD 33 undef) (l.getD 34 undef) (l.getD 35 undef) (l.getD 36 undef) (l.getD 37 undef) (l.getD 38 undef) (l.getD 39 undef) (l.getD 40 undef) (l.getD 41 undef) (l.getD 42 undef) (l.getD 43 undef) (l.getD 44 undef) (l.getD 45 undef) (l.getD 46 undef) (l.getD 47 undef) (l.getD 48 undef) (l.getD 49 undef) (l.getD 50 undef) (l.getD 51 undef) (l.getD 52 undef) (l.getD 53 undef) (l.getD 54 undef) (l.getD 55 undef) (l.getD 56 undef) (l.getD 57 undef) (l.getD 58 undef) (l.getD 59 undef) (l.getD 60 undef) (l.getD 61 undef) (l.getD 62 undef) (l.getD 63 undef) (l.getD 64 undef) (l.getD 65 undef) (l.getD 66 undef) (l.getD 67 undef) (l.getD 68 undef) (l.getD 69 undef) (l.getD 70 undef) (l.getD 71 undef) (l.getD 72 undef) (l.getD 73 undef) (l.getD 74 undef) (l.getD 75 undef) (l.getD 76 undef) (l.getD 77 undef) (l.getD 78 undef) (l.getD 79 undef) (l.getD 80 undef) (l.getD 81 undef) (l.getD 82 undef) (l.getD 83 undef) (l.getD 84 undef) (l.getD 85 undef) (l.getD 86 undef) (l.getD 87 undef) (l.getD 88 undef) (l.getD 89 undef) (l.getD 90 undef) (l.getD 91 undef) (l.getD 92 undef) (l.getD 93 undef) (l.getD 94 undef) (l.getD 95 undef) (l.getD 96 undef) (l.getD 97 undef) (l.getD 98 undef) (l.getD 99 undef) (l.getD 100 undef) (l.getD 101 undef) (l.getD 102 undef) (l.getD 103 undef) (l.getD 104 undef) (l.getD 105 undef) (l.getD 106 undef) (l.getD 107 undef) (l.getD 108 undef) (l.getD 109 undef) (l.getD 110 undef) (l.getD 111 undef) (l.getD 112 undef) (l.getD 113 undef) (l.getD 114 undef) (l.getD 115 undef) (l.getD 116 undef) (l.getD 117 undef) (l.getD 118 undef) (l.getD 119 undef) (l.getD 120 undef) (l.getD 121 undef) (l.getD 122 undef) (l.getD 123 undef)
  exact (congrArg (fun x => P ⟨⟨x⟩, []⟩) e).mpr this

set_option maxHeartbeats 8000000 in
set_option maxRecDepth 100000 in
theorem visit0 (H n v : Nat) (F : Value) (na oa : Option Addr) (nc oc : Nat) (s : TS) (w : World) (Q : Exit → Act → World → Prop) (Z : Code) (a : Act) (s12 : Value)
    (h : VS w H n F na oa nc oc s) (hs : s.step ≤ 65536)
    (hF : Fr41 a (.int .i64 (v : Nat)) (.pointer (some ⟨H + 10, 0, Option.none⟩)) (.pointer (some ⟨H + 2, 0, Option.none⟩)) (.pointer (some ⟨H + 4, 0, Option.none⟩)) (.pointer (some ⟨H + 9, 0, Option.none⟩)) (.pointer (some ⟨H + 6, 0, Option.none⟩)) (.pointer (some ⟨H, 0, Option.none⟩)) (.pointer (some ⟨H + 11, 0, Option.none⟩)) (.pointer (some ⟨H + 8, 0, Option.none⟩)) (s12))
    (hZ : ∀ a', Fr41 a' (.int .i64 (v : Nat)) (.pointer (some ⟨H + 10, 0, Option.none⟩)) (.pointer (some ⟨H + 2, 0, Option.none⟩)) (.pointer (some ⟨H + 4, 0, Option.none⟩)) (.pointer (some ⟨H + 9, 0, Option.none⟩)) (.pointer (some ⟨H + 6, 0, Option.none⟩)) (.pointer (some ⟨H, 0, Option.none⟩)) (.pointer (some ⟨H + 11, 0, Option.none⟩)) (.pointer (some ⟨H + 8, 0, Option.none⟩)) (s12) → Code.wp Try.prog Z Q a' (w.setCell ⟨H + 10, 0, Option.none⟩ (.int .i64 ((s.step + 1 : Nat) : Int)))) :
    Code.wp Try.prog (.seq (stm Try.f41.body 0) Z) Q a w := by
  have HZ := hide hZ
  have c1 := h.bs.cell (i := 0) (by omega)
  have f1 := h.bs.frozen 0
  clear hZ h
  refine fr_open41 (fun a => Code.wp Try.prog (.seq (stm Try.f41.body 0) Z) Q a w) a hF ?_
  intro u9 u10 u11 u13 u14 u15 u16 u17 u18 u19 u20 u21 u22 u23 u24 u25 u26 u27 u28 u29 u30 u31 u32 u33 u34 u35 u36 u37 u38 u39 u40 u41 u42 u43 u44 u45 u46 u47 u48 u49 u50 u51 u52 u53 u54 u55 u56 u57 u58 u59 u60 u61 u62 u63 u64 u65 u66 u67 u68 u69 u70 u71 u72 u73 u74 u75 u76 u77 u78 u79 u80 u81 u82 u83 u84 u85 u86 u87 u88 u89 u90 u91 u92 u93 u94 u95 u96 u97 u98 u99 u100 u101 u102 u103 u104 u105 u106 u107 u108 u109 u110 u111 u112 u113 u114 u115 u116 u117 u118 u119 u120 u121 u122 u123
  dsimp only
  conv => arg 2; arg 1; whnf
  go_wp2_with fail
  exact unhide HZ _ ⟨rfl, rfl, rfl, rfl, rfl, rfl, rfl, rfl, rfl, rfl, rfl, rfl⟩

set_option maxHeartbeats 8000000 in
set_option maxRecDepth 100000 in
theorem visit1 (H n v : Nat) (F : Value) (na oa : Option Addr) (nc oc : Nat) (s : TS) (w : World) (Q : Exit → Act → World → Prop) (Z : Code) (a : Act) (s12 : Value)
    (h : VS w H n F na oa nc oc s) (hv : v < n)
    (hF : Fr41 a (.int .i64 (v : Nat)) (.pointer (some ⟨H + 10, 0, Option.none⟩)) (.pointer (some ⟨H + 2, 0, Option.none⟩)) (.pointer (some ⟨H + 4, 0, Option.none⟩)) (.pointer (some ⟨H + 9, 0, Option.none⟩)) (.pointer (some ⟨H + 6, 0, Option.none⟩)) (.pointer (some ⟨H, 0, Option.none⟩)) (.pointer (some ⟨H + 11, 0, Option.none⟩)) (.pointer (some ⟨H + 8, 0, Option.none⟩)) (s12))
    (hZ : ∀ a' w', Fr41 a' (.int .i64 (v : Nat)) (.pointer (some ⟨H + 10, 0, Option.none⟩)) (.pointer (some ⟨H + 2, 0, Option.none⟩)) (.pointer (some ⟨H + 4, 0, Option.none⟩)) (.pointer (some ⟨H + 9, 0, Option.none⟩)) (.pointer (some ⟨H + 6, 0, Option.none⟩)) (.pointer (some ⟨H, 0, Option.none⟩)) (.pointer (some ⟨H + 11, 0, Option.none⟩)) (.pointer (some ⟨H + 8, 0, Option.none⟩)) (s12) → Below H w w' → VS w' H n F na oa nc oc ⟨updN s.ord v s.step, updN s.low v s.step, s.onS, s.cyc, s.stk, s.step⟩ → Code.wp Try.prog Z Q a' w') :
    Code.wp Try.prog (.seq (stm Try.f41.body 1) Z) Q a w := by
  have HZ := hide hZ
  have c1 := h.bo.cell (i := 0) (by omega)
  have c2 := h.bl.cell (i := 0) (by omega)
  have c3 := h.bs.cell (i := 0) (by omega)
  have d1 := h.ro.cell (i := v) hv
  have d2 := h.rl.cell (i := v) hv
  have f1 := h.ro.frozen v
  have f2 := h.rl.frozen v
  have lv : (v : Int) < (n : Int) := by omega
  have HV := hide h
  clear hZ h
  refine fr_open41 (fun a => Code.wp Try.prog (.seq (stm Try.f41.body 1) Z) Q a w) a hF ?_
  intro u9 u10 u11 u13 u14 u15 u16 u17 u18 u19 u20 u21 u22 u23 u24 u25 u26 u27 u28 u29 u30 u31 u32 u33 u34 u35 u36 u37 u38 u39 u40 u41 u42 u43 u44 u45 u46 u47 u48 u49 u50 u51 u52 u53 u54 u55 u56 u57 u58 u59 u60 u61 u62 u63 u64 u65 u66 u67 u68 u69 u70 u71 u72 u73 u74 u75 u76 u77 u78 u79 u80 u81 u82 u83 u84 u85 u86 u87 u88 u89 u90 u91 u92 u93 u94 u95 u96 u97 u98 u99 u100 u101 u102 u103 u104 u105 u106 u107 u108 u109 u110 u111 u112 u113 u114 u115 u116 u117 u118 u119 u120 u121 u122 u123
  dsimp only
  conv => arg 2; arg 1; whnf
  go_wp2_with fail
  go_region
  all_goals go_wp2_with fail
  exact unhide HZ _ _ ⟨rfl, rfl, rfl, rfl, rfl, rfl, rfl, rfl, rfl, rfl, rfl, rfl⟩ (below_drewN' (((Below.refl H w).setCell (p := ⟨H + 1, v, Option.none⟩) (Nat.le_succ _) _).setCell (p := ⟨H + 3, v, Option.none⟩) (by simp) _) 1) ((((unhide HV).setOrd v s.step).setLow v s.step).drewN 1)

set_option maxHeartbeats 8000000 in
set_option maxRecDepth 100000 in
theorem visit2 (H n v : Nat) (F : Value) (na oa : Option Addr) (nc oc : Nat) (s : TS) (w : World) (Q : Exit → Act → World → Prop) (Z : Code) (a : Act) (s12 : Value)
    (h : VS w H n F na oa nc oc s) (hl : s.stk.length ≤ 65536)
    (hF : Fr41 a (.int .i64 (v : Nat)) (.pointer (some ⟨H + 10, 0, Option.none⟩)) (.pointer (some ⟨H + 2, 0, Option.none⟩)) (.pointer (some ⟨H + 4, 0, Option.none⟩)) (.pointer (some ⟨H + 9, 0, Option.none⟩)) (.pointer (some ⟨H + 6, 0, Option.none⟩)) (.pointer (some ⟨H, 0, Option.none⟩)) (.pointer (some ⟨H + 11, 0, Option.none⟩)) (.pointer (some ⟨H + 8, 0, Option.none⟩)) (s12))
    (hZ : ∀ a' w', Fr41 a' (.int .i64 (v : Nat)) (.pointer (some ⟨H + 10, 0, Option.none⟩)) (.pointer (some ⟨H + 2, 0, Option.none⟩)) (.pointer (some ⟨H + 4, 0, Option.none⟩)) (.pointer (some ⟨H + 9, 0, Option.none⟩)) (.pointer (some ⟨H + 6, 0, Option.none⟩)) (.pointer (some ⟨H, 0, Option.none⟩)) (.pointer (some ⟨H + 11, 0, Option.none⟩)) (.pointer (some ⟨H + 8, 0, Option.none⟩)) (s12) → Below H w w' → VS w' H n F na oa nc oc ⟨s.ord, s.low, s.onS, s.cyc, s.stk ++ [v], s.step⟩ → Code.wp Try.prog Z Q a' w') :
    Code.wp Try.prog (.seq (stm Try.f41.body 2) Z) Q a w := by
  have HZ := hide hZ
  obtain ⟨v0, hr0, ho⟩ := h.bk
  have c1 := hr0.cell (i := 0) (by omega)
  have hsz := h.hs
  have hb1 : Below w.heap.size w (w.alloc (.cells #[.int .i64 (v : Nat)] 3)) := (Below.refl _ _).alloc (Nat.le_refl _) _
  obtain ⟨v', w', hr, g1, g2⟩ := append_int v w.heap.size 22 (World.ownsRow.alloc ho (.cells #[.int .i64 (v : Nat)] 3)) (Nat.le_trans hsz hb1.size) (cell_new _ _ _ 0 rfl) (by omega)
  obtain ⟨av, cv, rfl, -, -, -⟩ := OwnI.form g1
  rw [show (s.stk ++ [v]).length = s.stk.length + 1 from by simp] at hr g1
  have hown := fun k e => (World.ownsRow.lt ho k e).1
  have hb2 : Below (H + 12) w w' := (hb1.mono hsz).trans (grown_below g2 (Nat.le_trans hsz hb1.size) hown)
  have hr1 : w'.rowIs (H + 9) 22 1 (fun _ => v0) := hr0.of_block (hb2.block _ (by omega))
  have c2 := hr1.cell (i := 0) (by omega)
  have f2 := hr1.frozen 0
  have HV := hide h
  have HG := hide g1
  clear hZ h hown g1 g2 hr0 hr1 ho
  refine fr_open41 (fun a => Code.wp Try.prog (.seq (stm Try.f41.body 2) Z) Q a w) a hF ?_
  intro u9 u10 u11 u13 u14 u15 u16 u17 u18 u19 u20 u21 u22 u23 u24 u25 u26 u27 u28 u29 u30 u31 u32 u33 u34 u35 u36 u37 u38 u39 u40 u41 u42 u43 u44 u45 u46 u47 u48 u49 u50 u51 u52 u53 u54 u55 u56 u57 u58 u59 u60 u61 u62 u63 u64 u65 u66 u67 u68 u69 u70 u71 u72 u73 u74 u75 u76 u77 u78 u79 u80 u81 u82 u83 u84 u85 u86 u87 u88 u89 u90 u91 u92 u93 u94 u95 u96 u97 u98 u99 u100 u101 u102 u103 u104 u105 u106 u107 u108 u109 u110 u111 u112 u113 u114 u115 u116 u117 u118 u119 u120 u121 u122 u123
  dsimp only
  conv => arg 2; arg 1; whnf
  go_wp2_with (at_builtin; refine Lib.wpList_append_run _ rfl _ _ _ _ rfl _ _ rfl rfl _ _ hr ?_)
  exact unhide HZ _ _ ⟨rfl, rfl, rfl, rfl, rfl, rfl, rfl, rfl, rfl, rfl, rfl, rfl⟩ ((hb2.mono (Nat.le_add_right _ _)).setCell (p := ⟨H + 9, 0, Option.none⟩) (Nat.le_add_right _ _) _) ((unhide HV).pushed hb2 (unhide HG))

end Go.Proofs.Qxb6602460a
