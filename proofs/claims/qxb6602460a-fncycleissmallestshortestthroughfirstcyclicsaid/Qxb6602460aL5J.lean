import Derived.Test.Qxb6602460aL5B
import Derived.Test.Qxb6602460aL5G
import Derived.Test.Qxb6602460aL5H
import Derived.Test.Qxb6602460aL5I
namespace Go.Proofs.Qxb6602460a
open Go.RowKit Go.Maps Go.Own


theorem SliceAt.drew {w : World} {a : Option Addr} {n c : Nat} {f : Nat → Value} (h : SliceAt w a n c f) (j : Nat) : SliceAt (w.drewN j) a n c f := ⟨h.cap, h.nil, h.cells⟩
theorem RowsAt.drew {w : World} {a : Option Addr} {n c : Nat} {A : Nat → Option Addr} {N C : Nat → Nat} {X : Nat → Nat → Int} (h : RowsAt w a n c A N C X) (j : Nat) : RowsAt (w.drewN j) a n c A N C X := ⟨SliceAt.drew h.1 j, fun i hi => SliceAt.drew (h.2 i hi) j⟩

/-- True comes back; what was there is there. -/
def TrueB (w : World) (e : Ending) (w' : World) : Prop := e = .returned (.bool true) ∧ Below w.heap.size w w'

set_option maxRecDepth 100000 in
theorem law5_all {na oa : Option Addr} {nn nc n oc : Nat} {nd : Nat → Int} {A : Nat → Option Addr} {N C : Nat → Nat} {X : Nat → Nat → Int} {w : World} {a : Act} {Q : Exit → Act → World → Prop}
    (hnd : SliceAt w na nn nc (fun i => .int .i64 (nd i))) (hr : RowsAt w oa n oc A N C X)
    (hF : Fr5b a (.slice na nn nc) (.slice oa n oc) (undef) (undef) (undef) (undef) (undef))
    (hRet : ∀ a' w', a'.defers = [] → a'.tmps.getD 4 undef = .bool true → Below w.heap.size w w' → Q .ret a' w') :
    Code.wp Try.prog (.seq (stm Try.f5.body 0) (.seq (stm Try.f5.body 1) (.seq (stm Try.f5.body 2) (.seq (stm Try.f5.body 3) (.seq (stm Try.f5.body 4) (.seq (stm Try.f5.body 5) (.seq (stm Try.f5.body 6) (.seq (stm Try.f5.body 7) (.seq (stm Try.f5.body 8) (.seq (stm Try.f5.body 9) (.seq (stm Try.f5.body 10) (.seq (stm Try.f5.body 11) (.seq (stm Try.f5.body 12) (.seq (stm Try.f5.body 13) (.seq (stm Try.f5.body 14) (.seq (stm Try.f5.body 15) (.seq (stm Try.f5.body 16) (.seq (stm Try.f5.body 17) (.seq (stm Try.f5.body 18) (.seq (stm Try.f5.body 19) (.seq (stm Try.f5.body 20) (.seq (stm Try.f5.body 21) (.seq (stm Try.f5.body 22) (.seq (stm Try.f5.body 23) (.seq (stm Try.f5.body 24) (.seq (stm Try.f5.body 25) (.seq (stm Try.f5.body 26) (.seq (stm Try.f5.body 27) (rst Try.f5.body 28))))))))))))))))))))))))))))) Q a w := by
  refine wp_seq (lb0 hF fun a0 h0 => ?_)
  refine wp_seq (lb1 (zzBytes18 na oa nn nc n oc A N C w hr.1) h0 (fun a' w' hd h4 ⟨j, e⟩ => hRet _ _ hd h4 (by rw [e]; exact below_drewN' (Below.refl _ _) j)) fun a1 j1 _ h1 => ?_)
  have B1 : Below w.heap.size w (w.drewN j1) := below_drewN' (Below.refl _ _) j1
  have hr1 := RowsAt.drew hr j1
  have hnd1 := SliceAt.drew hnd j1
  generalize w.drewN j1 = w1 at *
  refine wp_seq (lb3 h1 (fun a' w' hd h4 ⟨j, e⟩ => hRet _ _ hd h4 (by rw [e]; exact below_drewN' B1 j)) fun a2 hnn hn h2 => ?_)
  refine wp_seq (lb5 (bytes10 na oa nn nc n oc A N C w1 hr1.1 hn hnn) h2 (fun a' w' hd h4 ⟨j, e⟩ => hRet _ _ hd h4 (by rw [e]; exact below_drewN' B1 j)) fun a3 j2 hN h3 => ?_)
  have B2 : Below w.heap.size w (w1.drewN j2) := below_drewN' B1 j2
  have hr2 := RowsAt.drew hr1 j2
  have hnd2 := SliceAt.drew hnd1 j2
  generalize w1.drewN j2 = w2 at *
  refine wp_seq (lb7 (edges11 oa n oc A N C X w2 hr2 hn hN) h3 (fun a' w' hd h4 ⟨j, e⟩ => hRet _ _ hd h4 (by rw [e]; exact below_drewN' B2 j)) fun a4 j3 hnn' hrng h4 => ?_)
  subst hnn'
  have B3 : Below w.heap.size w (w2.drewN j3) := below_drewN' B2 j3
  have hr3 := RowsAt.drew hr2 j3
  have hnd3 := SliceAt.drew hnd2 j3
  generalize w2.drewN j3 = w3 at *
  refine wp_seq (lb9 (asc19 na nn nc nd w3 hnd3 hn) (fun j => rows20 oa nn oc A N C X _ (RowsAt.drew hr3 j) hn hN) (fun j => self21 oa nn oc A N C X _ (RowsAt.drew hr3 j) hn hN) h4 (fun a' w' hd h4 ⟨j, e⟩ => hRet _ _ hd h4 (by rw [e]; exact below_drewN' B3 j)) fun a5 j4 hmono hself0 h5 => ?_)
  have B4 : Below w.heap.size w (w3.drewN j4) := below_drewN' B3 j4
  have hr4 := RowsAt.drew hr3 j4
  have hnd4 := SliceAt.drew hnd3 j4
  generalize w3.drewN j4 = w4 at *
  clear hr1 hr2 hr3 hnd1 hnd2 hnd3 h0 h1 h2 h3 h4 B1 B2 B3 hr hnd hF hnn
  -- the plain graph
  have hin : ∀ i, i < nn → ∀ y, y ∈ outOf nn N X i → y < nn := fun i hi y hy => by
    obtain ⟨_, q, hq, rfl⟩ := outOf_mem hy
    have := hrng i hi q hq
    omega
  have hlen : ∀ i, i < nn → (outOf nn N X i).length ≤ 1048576 := fun i hi => by rw [outOf_len hi]; have := hN i hi; omega
  have hasc := outOf_asc (n := nn) (N := N) (X := X) hmono
  have hself : ∀ v, ¬ EO (outOf nn N X) v v := fun v hv => by
    obtain ⟨h1, q, hq, e⟩ := outOf_mem hv
    have := hrng v h1 q hq
    exact hself0 v h1 q hq (by omega)
  have hrow : ∀ v x, EO (outOf nn N X) v x → v < nn := fun v x h => outOf_row h
  refine wp_seq (lb11 _ (cloneInts_any na nn nc nd w4 (by omega) hnd4) h5 (fun e w' ⟨_, _, e1, _⟩ => ⟨_, e1⟩) fun a6 w5 v6 hc h6 => ?_)
  obtain ⟨na', nc', e, hb5, -, hnd5, -⟩ := hc
  cases e
  have B5 := below_step B4 hb5
  refine wp_seq (lb12 _ (cloneRows_any oa nn oc A N C X w5 (by omega) (fun i hi => by have := hN i hi; omega) (RowsAt.below hr4 hb5)) h6 (fun e w' ⟨_, _, _, _, e1, _⟩ => ⟨_, e1⟩) fun a7 w6 v7 hc h7 => ?_)
  obtain ⟨oa', oc', A', C', e, hb6, hr6, -, -⟩ := hc
  cases e
  have B6 := below_step B5 hb6
  have hnd6 := SliceAt.below hnd5 hb6
  have hgr6 := Gr.of_rows hr6 hrng
  generalize outOf nn N X = out at *
  clear hr6 hr4 hnd4 hnd5 hb5 hb6 B4 B5 h5 h6 hmono hself0 hN hrng
  refine wp_seq (lb13 _ (zzCycle22 hn hgr6 hnd6 hin hlen hasc) h7 (fun e w' hr => ?_) fun a8 w7 v8 hcy h8 => ?_)
  · rcases hr.2 with ⟨he, _⟩ | ⟨_, _, _, _, _, _, _, _, _, _, _, _, _, _, _, _, _, _, _, _, _, he, _⟩
    · exact ⟨_, he⟩
    · exact ⟨_, he⟩
  have hb7 : Below w6.heap.size w6 w7 := hcy.1
  have B7 := below_step B6 hb7
  have hnd7 := SliceAt.below hnd6 hb7
  have hgr7 : Gr w7 oa' nn oc' A' C' out := RowsAt.below hgr6 hb7
  refine wp_seq (lb14 h8 fun a9 h9 => ?_)
  refine wp_seq (lb15 _ (scc15 hn hgr7 hin hlen hrow) h9 (fun e w' ⟨_, _, e1, _⟩ => ⟨_, e1⟩) fun a10 w8 v10 hsc h10 => ?_)
  obtain ⟨sb, sz, e, -, hb8, hsz, hscc⟩ := hsc
  cases e
  have B8 := below_step B7 hb8
  have hnd8 := SliceAt.below hnd7 hb8
  have hgr8 : Gr w8 oa' nn oc' A' C' out := RowsAt.below hgr7 hb8
  refine wp_seq (lb16 h10 fun a11 h11 => ?_)
  refine wp_seq (lb17 hn hsz h11 (fun a12 s9 hno h12 => ?_) (fun a12 s s9 hs h1s hfirst h12 => ?_))
  · rcases hcy.2 with ⟨e, _⟩ | ⟨s, _, _, _, _, _, _, _, _, _, g1, g2, _⟩
    · cases e
      exact wp_seq (lb22 h12 fun a' hd h4 => hRet _ _ hd h4 B8)
    · exact absurd ((hscc s g1).2 g2) (hno s g1)
  have hcyc : OnCyc (EO out) s := (hscc s hs).1 h1s
  rcases hcy.2 with ⟨_, g⟩ | ⟨s', Q1, pi, h, K, par, Lc, t, gb, gc, g1, g2, g3, hFI, hlt, hback, t0, tL, tS, tq, hLc, e, hgot⟩
  · exact absurd hcyc (g s hs)
  obtain rfl : s' = s := by
    rcases Nat.lt_trichotomy s' s with hl | he | hl
    · exact absurd ((hscc s' g1).2 g2) (hfirst s' hl)
    · exact he
    · exact absurd hcyc (g3 s hl)
  cases e
  refine wp_seq (lb22b h12 fun a13 h13 => ?_)
  refine wp_seq (lc24 _ (rev17 oa' nn oc' A' C' out w8 hgr8 hn hin hlen) h13 (fun e w' ⟨_, _, _, e1, _⟩ => ⟨_, e1⟩) fun a14 w9 v14 s11 s13 s14 s15 s17 s126 s127 s128 hrv h14 => ?_)
  obtain ⟨RA, RC, R, e, hb9, hgrR, hR, hRl⟩ := hrv
  cases e
  have B9 := below_step B8 hb9
  refine lc25 _ hn hs h14 fun a15 w10 hb10 hsz10 hd10 h15 => ?_
  refine wp_seq (lc31 (make0 nn (by omega)) h15 fun a16 h16 => ?_)
  have hq16 := Bl.made w10 nn
  rw [hsz10] at hq16 h16
  have hD16 : D1 w9 (w10.alloc (.cells (madeCells #[.int .i64 0] nn) 3)) w9.heap.size nn (updI (fun _ => -1) s' 0) [] := ⟨hb10.alloc (by omega) _, hd10.alloc _, hq16⟩
  generalize w10.alloc (.cells (madeCells #[.int .i64 0] nn) 3) = w11 at hD16 h16 ⊢
  have hn0 : 0 < nn := by omega
  refine wp_seq (lc32 (hD16.q.run hn0 ((s' : Nat) : Int)) h16 fun a17 h17 => ?_)
  have hD17 := hD16.push hn0 s'
  refine wp_seq (lcBfs hn hgrR rfl hR hRl hrow hs hD17 h17 fun a18 w12 dist s14 s15 s17 s126 s127 s128 Q2 hDist hdb hD18 h18 => ?_)
  have B12 := below_step B9 hD18.bel
  have hb812 : Below w8.heap.size w8 w12 := below_step hb9 hD18.bel
  have hnd12 := SliceAt.below hnd8 hb812
  have hgr12 : Gr w12 oa' nn oc' A' C' out := RowsAt.below hgr8 hb812
  refine ldLen _ hn hgr12 hlen hin hs hself hcyc hDist hdb hD18.row h18 fun a19 L s20 s153 s154 s155 hL2 hLn hL0 hLmin h19 => ?_
  refine wp_seq (le53 (by omega) (fun w => by have := make0 (L + 1) (by omega) w; rw [Int.natCast_add] at this; exact this) h19 fun a20 s22 s23 s24 s26 s204 s205 s206 h20 => ?_)
  have hE20 : Bz (w12.alloc (.cells (madeCells #[.int .i64 0] (L + 1)) 3)) w12.heap.size (L + 1) [] := Bz.made w12 (L + 1)
  have hb20 : Below w12.heap.size w12 (w12.alloc (.cells (madeCells #[.int .i64 0] (L + 1)) 3)) := (Below.refl _ _).alloc (Nat.le_refl _) _
  generalize w12.alloc (.cells (madeCells #[.int .i64 0] (L + 1)) 3) = w13 at hE20 hb20 h20 ⊢
  have hE20' : E1 w12 w13 w12.heap.size L nd [] := ⟨hb20, hE20⟩
  refine wp_seq (le54 hs (SliceAt.at (SliceAt.below hnd12 hb20) hs) (hE20.run (Nat.succ_pos _) (nd s')) h20 fun a21 h21 => ?_)
  have hE21 := hE20'.push (Nat.succ_pos _) s'
  refine wp_seq (le55 h21 fun a22 h22 => ?_)
  refine wp_seq (leWant hgr12 hnd12 rfl hlen hin hs hDist hD18.row hLn hL0 hE21 h22 fun a23 w14 ps s22 s23 s24 s26 s204 s205 s206 hG hE h23 => ?_)
  obtain ⟨eL, eq, eS⟩ := ways_agree hFI hlt hback hself hDist hL2 hLmin hG t0 tL tS tq
  subst eL
  have hgot14 := SliceAt.below (SliceAt.below hgot (below_step hb8 hb812)) hE.bel
  have hpl := hG.len
  have hwant := hE.want.slice
  rw [List.length_map, hpl] at hwant
  have hsame := sameInts_true _ _ (Lc + 2) gc (Lc + 1 + 1) _ w14 hgot14 (SliceAt.congr hwant (g := fun i => .int .i64 (if i ≤ Lc then nd (Q1.getD (t i) 0) else nd s')) fun i hi => ?_) (by omega)
  · refine le70 (fun w' => ∃ j, w' = w14.drewN j) hsame h23 fun a' w' hd h4 ⟨j, e⟩ => hRet _ _ hd h4 ?_
    rw [e]
    exact below_drewN' (below_step B12 hE.bel) j
  · have hi' : i < ps.length := by omega
    have e1 : (ps.map nd).getD i 0 = nd (ps.getD i 0) := by simp [List.getD_eq_getElem?_getD, hi']
    rw [e1]
    by_cases c : i ≤ Lc
    · rw [if_pos c, eq i c]
    · rw [if_neg c, show i = Lc + 1 by omega, eS]

set_option maxRecDepth 100000 in
theorem law5 {na oa : Option Addr} {nn nc n oc : Nat} {nd : Nat → Int} {A : Nat → Option Addr} {N C : Nat → Nat} {X : Nat → Nat → Int} {w : World}
    (hnd : SliceAt w na nn nc (fun i => .int .i64 (nd i))) (hr : RowsAt w oa n oc A N C X) :
    Calls Try.prog 5 #[.slice na nn nc, .slice oa n oc] w (TrueB w) := by
  go_enter Try.func5, Try.ntmps5
  show Code.wp Try.prog (.seq (stm Try.f5.body 0) (.seq (stm Try.f5.body 1) (.seq (stm Try.f5.body 2) (.seq (stm Try.f5.body 3) (.seq (stm Try.f5.body 4) (.seq (stm Try.f5.body 5) (.seq (stm Try.f5.body 6) (.seq (stm Try.f5.body 7) (.seq (stm Try.f5.body 8) (.seq (stm Try.f5.body 9) (.seq (stm Try.f5.body 10) (.seq (stm Try.f5.body 11) (.seq (stm Try.f5.body 12) (.seq (stm Try.f5.body 13) (.seq (stm Try.f5.body 14) (.seq (stm Try.f5.body 15) (.seq (stm Try.f5.body 16) (.seq (stm Try.f5.body 17) (.seq (stm Try.f5.body 18) (.seq (stm Try.f5.body 19) (.seq (stm Try.f5.body 20) (.seq (stm Try.f5.body 21) (.seq (stm Try.f5.body 22) (.seq (stm Try.f5.body 23) (.seq (stm Try.f5.body 24) (.seq (stm Try.f5.body 25) (.seq (stm Try.f5.body 26) (.seq (stm Try.f5.body 27) (rst Try.f5.body 28))))))))))))))))))))))))))))) _ _ _
  exact law5_all hnd hr ⟨rfl, rfl, rfl, rfl, rfl, rfl, rfl, rfl, rfl⟩ (fun a' w' hd h4 hb => bodyPost_ret (results_tmp rfl _ _ _) hd ⟨by rw [h4], hb⟩)

end Go.Proofs.Qxb6602460a
