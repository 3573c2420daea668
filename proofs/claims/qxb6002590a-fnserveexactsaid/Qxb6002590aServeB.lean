import Derived.Test.Qxb6002590aServeA
namespace Go.Proofs.Qxb6002590a
open Go.RowKit Go.Own

theorem nnil38 (w : World) (a : Option Addr) (n c : Nat) : (binOp .neq 38 (.slice a n c) (.slice Option.none 0 0)).run Try.prog w = .ok (.bool (!a.isNone)) w := Go.run_neq_slice_nil w 38 3 a n c Try.underlying38

set_option maxHeartbeats 4000000 in
set_option maxRecDepth 100000 in
theorem serve2 (B off n sc kn kc qb : Nat) (ka : Option Addr) (S : Nat → Sp) (κ : Nat → Nat) (W : World) (w : World) (q : Nat) (Q : Exit → Act → World → Prop) (Z : Code) (a : Act) (s8 s9 s12 s15 : Value)
    (hI : In W B off n S ka kn kc κ) (hq : q ≤ kn)
    (hF : Fr31 a (.slice (some ⟨B, off, Option.none⟩) n sc) (.slice ka kn kc) (.pointer (some ⟨qb, 0, Option.none⟩)) (.bool false) (.slice Option.none 0 0) (.int .i64 (q : Nat)) (s8) (s9) (s12) (s15))
    (hZ : ∀ a' m, m = min (q + 1) kn → Fr31 a' (.slice (some ⟨B, off, Option.none⟩) n sc) (.slice ka kn kc) (.pointer (some ⟨qb, 0, Option.none⟩)) (.bool false) (.slice Option.none 0 0) (.int .i64 (q : Nat)) (.slice ka m kc) (.slice Option.none 0 0) (s12) (s15) → Code.wp Try.prog Z Q a' w) :
    Code.wp Try.prog (.seq (stm Try.f31.body 3) (.seq (stm Try.f31.body 4) Z)) Q a w := by
  have HZ := hide hZ
  have hk0 := hI.k0
  have hcap : (kn : Int) ≤ (kc : Int) := by have := hI.key.cap; omega
  have hnil := hI.key.nil
  clear hZ
  by_cases hlt : q < kn
  · have l1 : (q : Int) + 1 ≤ (kn : Int) := by omega
    have l2 : (q : Int) + 1 ≤ (kc : Int) := by omega
    have hmin : min ((q : Int) + 1) (kn : Int) = (q : Int) + 1 := by omega
    obtain ⟨b1, o1, rfl, -⟩ := hI.key.cells (by omega)
    clear hnil
    refine fr_open31 (fun a => Code.wp Try.prog (.seq (stm Try.f31.body 3) (.seq (stm Try.f31.body 4) Z)) Q a w) a hF ?_
    intro u2 u3 u10 u11 u13 u14 u16 u17 u18 u19 u20 u21 u22 u23 u24 u25 u26 u27 u28 u29 u30 u31 u32 u33 u34 u35 u36 u37 u38 u39 u40 u41 u42 u43 u44 u45 u46 u47 u48 u49 u50 u51 u52 u53 u54 u55 u56 u57 u58 u59 u60 u61 u62 u63 u64 u65 u66 u67 u68 u69 u70 u71 u72 u73 u74 u75 u76 u77 u78 u79 u80 u81 u82 u83 u84 u85 u86 u87 u88 u89 u90 u91 u92 u93 u94 u95 u96 u97 u98 u99
    dsimp only
    conv => arg 2; arg 1; whnf
    conv => arg 2; arg 2; arg 1; whnf
    go_wp2_with fail
    exact unhide HZ _ (q + 1) (by omega) ⟨rfl, rfl, rfl, rfl, rfl, rfl, rfl, rfl, rfl, rfl, rfl, rfl⟩
  · have e : q = kn := by omega
    subst e
    have hmin : min ((q : Int) + 1) (q : Int) = (q : Int) := by omega
    cases ka with
    | none =>
      have hc0 := hnil rfl
      subst hc0
      have hq0 : q = 0 := by omega
      subst hq0
      clear hnil
      refine fr_open31 (fun a => Code.wp Try.prog (.seq (stm Try.f31.body 3) (.seq (stm Try.f31.body 4) Z)) Q a w) a hF ?_
      intro u2 u3 u10 u11 u13 u14 u16 u17 u18 u19 u20 u21 u22 u23 u24 u25 u26 u27 u28 u29 u30 u31 u32 u33 u34 u35 u36 u37 u38 u39 u40 u41 u42 u43 u44 u45 u46 u47 u48 u49 u50 u51 u52 u53 u54 u55 u56 u57 u58 u59 u60 u61 u62 u63 u64 u65 u66 u67 u68 u69 u70 u71 u72 u73 u74 u75 u76 u77 u78 u79 u80 u81 u82 u83 u84 u85 u86 u87 u88 u89 u90 u91 u92 u93 u94 u95 u96 u97 u98 u99
      dsimp only
      conv => arg 2; arg 1; whnf
      conv => arg 2; arg 2; arg 1; whnf
      go_wp2_with fail
      exact unhide HZ _ 0 (by omega) ⟨rfl, rfl, rfl, rfl, rfl, rfl, rfl, rfl, rfl, rfl, rfl, rfl⟩
    | some ad =>
      clear hnil
      refine fr_open31 (fun a => Code.wp Try.prog (.seq (stm Try.f31.body 3) (.seq (stm Try.f31.body 4) Z)) Q a w) a hF ?_
      intro u2 u3 u10 u11 u13 u14 u16 u17 u18 u19 u20 u21 u22 u23 u24 u25 u26 u27 u28 u29 u30 u31 u32 u33 u34 u35 u36 u37 u38 u39 u40 u41 u42 u43 u44 u45 u46 u47 u48 u49 u50 u51 u52 u53 u54 u55 u56 u57 u58 u59 u60 u61 u62 u63 u64 u65 u66 u67 u68 u69 u70 u71 u72 u73 u74 u75 u76 u77 u78 u79 u80 u81 u82 u83 u84 u85 u86 u87 u88 u89 u90 u91 u92 u93 u94 u95 u96 u97 u98 u99
      dsimp only
      conv => arg 2; arg 1; whnf
      conv => arg 2; arg 2; arg 1; whnf
      go_wp2_with fail
      exact unhide HZ _ q (by omega) ⟨rfl, rfl, rfl, rfl, rfl, rfl, rfl, rfl, rfl, rfl, rfl, rfl⟩

theorem contains35 {w : World} {ka : Option Addr} {kn kc m : Nat} {κ : Nat → Nat} (h : SliceAt w ka kn kc (fun j => .int .i64 (κ j : Nat))) (hm : m ≤ kn) (hk : kn ≤ 65536) (x : Int) :
    Calls Try.prog 35 #[.slice ka m kc, .int .i64 x] w fun e w' => e = .returned (.bool (((zs κ kn).take m).contains x)) ∧ w' = w := by
  by_cases hm0 : m = 0
  · subst hm0
    rw [List.take_zero]
    exact Try.slices_Contains_int_empty ka kc x w
  · obtain ⟨b, off, rfl, hc⟩ := h.cells (by omega)
    exact Try.slices_Contains_int b off m kc (zs κ kn) x w (by rw [zs_len]; exact hm) (by omega) (fun j hj => by rw [zs_len] at hj; rw [zs_get κ hj]; exact hc j hj)

theorem RngAt.grown {w w' : World} {b : Nat} {L U : Option Addr} {row : Option Nat} (h : RngAt w b L U) (hg : w.grownBy w' row) (hne : some b ≠ row) : RngAt w' b L U := World.rowIs.of_block h (hg.block b (World.rowIs.lt h) hne)

set_option maxHeartbeats 4000000 in
set_option maxRecDepth 100000 in
theorem serve3 (B off n sc kn kc qb : Nat) (ka : Option Addr) (S : Nat → Sp) (κ : Nat → Nat) (W : World) (m m0 : Nat) (w : World) (Q : Exit → Act → World → Prop) (Z : Code) (a : Act) (s7 s12 s15 : Value)
    (hI : In W B off n S ka kn kc κ) (hm : m ≤ kn) (hb : Below W.heap.size W w) (hq : RngAt w qb Option.none Option.none) (hqm : qb < m0) (hWm : W.heap.size ≤ m0) (hm0 : m0 ≤ w.heap.size)
    (hF : Fr31 a (.slice (some ⟨B, off, Option.none⟩) n sc) (.slice ka kn kc) (.pointer (some ⟨qb, 0, Option.none⟩)) (.bool false) (.slice Option.none 0 0) (s7) (.slice ka m kc) (.slice Option.none 0 0) (s12) (s15))
    (hZ : ∀ a' w' v, Fr31 a' (.slice (some ⟨B, off, Option.none⟩) n sc) (.slice ka kn kc) (.pointer (some ⟨qb, 0, Option.none⟩)) (.bool false) (.slice Option.none 0 0) (s7) (.slice ka m kc) (v) (s12) (s15) → OwnI w' m0 v (unOf S κ kn m n) → (unOf S κ kn m n = [] → v = .slice Option.none 0 0) → Below W.heap.size W w' → RngAt w' qb Option.none Option.none → m0 ≤ w'.heap.size → Code.wp Try.prog Z Q a' w') :
    Code.wp Try.prog (.seq (stm Try.f31.body 5) Z) Q a w := by
  have HZ := hide hZ
  have hk0 := hI.k0
  have hn0 := hI.n0
  clear hZ
  refine fr_open31 (fun a => Code.wp Try.prog (.seq (stm Try.f31.body 5) Z) Q a w) a hF ?_
  intro u2 u3 u10 u11 u13 u14 u16 u17 u18 u19 u20 u21 u22 u23 u24 u25 u26 u27 u28 u29 u30 u31 u32 u33 u34 u35 u36 u37 u38 u39 u40 u41 u42 u43 u44 u45 u46 u47 u48 u49 u50 u51 u52 u53 u54 u55 u56 u57 u58 u59 u60 u61 u62 u63 u64 u65 u66 u67 u68 u69 u70 u71 u72 u73 u74 u75 u76 u77 u78 u79 u80 u81 u82 u83 u84 u85 u86 u87 u88 u89 u90 u91 u92 u93 u94 u95 u96 u97 u98 u99
  dsimp only
  conv => arg 2; arg 1; whnf
  go_wp2_with fail
  go_loopw [9, 43] (fun v t wr => ∃ i : Nat, i ≤ n ∧ t = .int .i64 i ∧ OwnI wr m0 v (unOf S κ kn m i) ∧ (unOf S κ kn m i = [] → v = .slice Option.none 0 0) ∧ (unOf S κ kn m i).length ≤ i ∧ Below W.heap.size W wr ∧ RngAt wr qb Option.none Option.none ∧ m0 ≤ wr.heap.size) (fun _ t _ => n - (intOf t).toNat)
  case atStart => exact ⟨0, Nat.zero_le _, rfl, OwnI.nil _ _, fun _ => rfl, Nat.le_refl _, hb, hq, hm0⟩
  case round =>
    obtain ⟨i, hin, rfl, ho, hnil, hul, hbr, hqr, hmr⟩ := hrel
    by_cases hlt : i < n
    · obtain ⟨e0, e1, e2, e3, e4⟩ := (hI.sp _ hlt).below hbr
      have li : (i : Int) < (n : Int) := by omega
      have hun := unOf_succ S κ kn m i
      have hb1 : Below wr.heap.size wr (wr.alloc (.cells #[.slice (S i).la (S i).lo.length (S i).lc, .slice (S i).ha (S i).hi.length (S i).hc, .bool (S i).le, .bool (S i).he, .bool (S i).na] 49)) := (Below.refl _ _).alloc (Nat.le_refl _) _
      cases hna : (S i).na
      · rw [hna] at e4 hb1
        have HU := hide (show unOf S κ kn m (i + 1) = unOf S κ kn m i by rw [hun, hna]; simp)
        have HO := hide ho
        have HN := hide hnil
        clear hun ho hnil
        go_wp2_with fail
        go_roundw
        case rel => exact ⟨i + 1, hlt, by go_num, by rw [unhide HU]; exact (unhide HO).alloc _, by rw [unhide HU]; exact unhide HN, by rw [unhide HU]; omega, below_step hbr hb1, hqr.below hb1, by simp; omega⟩
        case measure => simp [intOf]; omega
      · rw [hna] at e4 hb1
        have hcon := contains35 ((hI.key.below hbr).below hb1) hm hk0 (i : Int)
        cases hc : ((zs κ kn).take m).contains (i : Int)
        · rw [hc] at hcon
          have HU := hide (show unOf S κ kn m (i + 1) = unOf S κ kn m i ++ [(i : Int)] by rw [hun, hna, hc]; rfl)
          have hb2 : Below (wr.alloc (.cells #[.slice (S i).la (S i).lo.length (S i).lc, .slice (S i).ha (S i).hi.length (S i).hc, .bool (S i).le, .bool (S i).he, .bool true] 49)).heap.size (wr.alloc (.cells #[.slice (S i).la (S i).lo.length (S i).lc, .slice (S i).ha (S i).hi.length (S i).hc, .bool (S i).le, .bool (S i).he, .bool true] 49))
              ((wr.alloc (.cells #[.slice (S i).la (S i).lo.length (S i).lc, .slice (S i).ha (S i).hi.length (S i).hc, .bool (S i).le, .bool (S i).he, .bool true] 49)).alloc (.cells #[.int .i64 (i : Int)] 3)) := (Below.refl _ _).alloc (Nat.le_refl _) _
          have hbb := below_step hb1 hb2
          obtain ⟨v', w', hr, g1, g2⟩ := append_int (i : Int) (wr.heap.size + 1) 38 ((World.ownsRow.alloc ho (.cells #[.slice (S i).la (S i).lo.length (S i).lc, .slice (S i).ha (S i).hi.length (S i).hc, .bool (S i).le, .bool (S i).he, .bool true] 49)).alloc (.cells #[.int .i64 (i : Int)] 3))
            (Nat.le_trans hmr hbb.size) (by simp) (by omega)
          have HO := hide (World.ownsRow.lt ho)
          clear hun ho hnil
          go_wp2_with (first | (refine hcon.mono ?_; rintro e w2 ⟨rfl, rfl⟩) | (at_builtin; refine Lib.wpList_append_run _ rfl _ _ _ _ rfl _ _ rfl rfl _ _ hr ?_))
          go_roundw
          case rel =>
            have hown := fun k e => (unhide HO k e).1
            refine ⟨i + 1, hlt, by go_num, by rw [unhide HU]; exact g1, fun e => absurd e (by rw [unhide HU]; simp), by rw [unhide HU]; simp; omega, ?_, ?_, ?_⟩
            · exact (below_step hbr hbb).trans (grown_below g2 (Nat.le_trans hbr.size hbb.size) (fun k e => Nat.le_trans hWm (hown k e)))
            · exact (hqr.below hbb).grown g2 (fun e => by have := hown qb e.symm; omega)
            · exact Nat.le_trans (Nat.le_trans hmr hbb.size) g2.size
          case measure => simp [intOf]; omega
        · rw [hc] at hcon
          have HU := hide (show unOf S κ kn m (i + 1) = unOf S κ kn m i by rw [hun, hna, hc]; simp)
          have HO := hide ho
          have HN := hide hnil
          clear hun ho hnil
          go_wp2_with fail
          refine hcon.mono ?_
          rintro e w2 ⟨rfl, rfl⟩
          go_wp2_with fail
          go_roundw
          case rel => exact ⟨i + 1, hlt, by go_num, by rw [unhide HU]; exact (unhide HO).alloc _, by rw [unhide HU]; exact unhide HN, by rw [unhide HU]; omega, below_step hbr hb1, hqr.below hb1, by simp; omega⟩
          case measure => simp [intOf]; omega
    · have e : i = n := by omega
      subst e
      have li : (i : Int) ≤ (i : Int) := Int.le_refl _
      have HO := hide ho
      have HN := hide hnil
      clear ho hnil hul
      go_wp2_with fail
      exact unhide HZ _ _ _ ⟨rfl, rfl, rfl, rfl, rfl, rfl, rfl, rfl, rfl, rfl, rfl, rfl⟩ (unhide HO) (unhide HN) hbr hqr hmr

end Go.Proofs.Qxb6002590a
