import Derived.Test.Qxb6602460aL5P
import Derived.Test.Qxb6602460aL5E
namespace Go.Proofs.Qxb6602460a
open Go.RowKit Go.Maps Go.Own

theorem codeS27 : (stm Try.f5.body 27) = .seq (headC (stm Try.f5.body 27)) (.block 10 (.loop (innerC (innerC (tailC (stm Try.f5.body 27)))))) := rfl
theorem codeL10e : (innerC (innerC (tailC (stm Try.f5.body 27)))) = .seq (headC (innerC (innerC (tailC (stm Try.f5.body 27))))) (.seq (.block 11 (.seq (headC (innerC (headC (tailC (innerC (innerC (tailC (stm Try.f5.body 27)))))))) (.seq (.seq (headC (headC (tailC (innerC (headC (tailC (innerC (innerC (tailC (stm Try.f5.body 27)))))))))) (.block 12 (.loop (innerC (innerC (tailC (headC (tailC (innerC (headC (tailC (innerC (innerC (tailC (stm Try.f5.body 27))))))))))))))) (.seq (headC (tailC (tailC (innerC (headC (tailC (innerC (innerC (tailC (stm Try.f5.body 27)))))))))) (.seq (headC (tailC (tailC (tailC (innerC (headC (tailC (innerC (innerC (tailC (stm Try.f5.body 27))))))))))) (tailC (tailC (tailC (tailC (innerC (headC (tailC (innerC (innerC (tailC (stm Try.f5.body 27)))))))))))))))) (tailC (tailC (innerC (innerC (tailC (stm Try.f5.body 27))))))) := rfl
theorem codeBL12 : (innerC (innerC (tailC (headC (tailC (innerC (headC (tailC (innerC (innerC (tailC (stm Try.f5.body 27)))))))))))) = .seq (headC (innerC (innerC (tailC (headC (tailC (innerC (headC (tailC (innerC (innerC (tailC (stm Try.f5.body 27))))))))))))) (.seq (headC (tailC (innerC (innerC (tailC (headC (tailC (innerC (headC (tailC (innerC (innerC (tailC (stm Try.f5.body 27)))))))))))))) (.seq (.block 13 (.seq (headC (innerC (headC (tailC (tailC (innerC (innerC (tailC (headC (tailC (innerC (headC (tailC (innerC (innerC (tailC (stm Try.f5.body 27))))))))))))))))) (.seq (headC (tailC (innerC (headC (tailC (tailC (innerC (innerC (tailC (headC (tailC (innerC (headC (tailC (innerC (innerC (tailC (stm Try.f5.body 27)))))))))))))))))) (.cond (.tmp 225) (condT (tailC (tailC (innerC (headC (tailC (tailC (innerC (innerC (tailC (headC (tailC (innerC (headC (tailC (innerC (innerC (tailC (stm Try.f5.body 27))))))))))))))))))) .skip)))) (tailC (tailC (tailC (innerC (innerC (tailC (headC (tailC (innerC (headC (tailC (innerC (innerC (tailC (stm Try.f5.body 27))))))))))))))))) := rfl

/-- What the greedy way keeps in memory. -/
structure E1 (W w : World) (WB L : Nat) (nd : Nat → Int) (ps : List Nat) : Prop where
  bel : Below WB W w
  want : Bz w WB (L + 1) (ps.map nd)

theorem E1.push {W w : World} {WB L : Nat} {nd : Nat → Int} {ps : List Nat} (h : E1 W w WB L nd ps) (hlt : ps.length < L + 1) (y : Nat) : E1 W ((w.alloc (.cells #[.int .i64 (nd y)] 3)).setCell ⟨WB, ps.length, Option.none⟩ (.int .i64 (nd y))) WB L nd (ps ++ [y]) := by
  refine ⟨(h.bel.alloc (Nat.le_of_lt h.want.lt) _).setCell (Nat.le_refl _) _, ?_⟩
  have := h.want.append (by simpa using hlt) (nd y)
  rw [List.length_map] at this
  rw [List.map_append]
  exact this

/-- Where the inner loop stands. -/
def LeI (WB DB n s L : Nat) (na oa : Option Addr) (nc oc : Nat) (s5 : Value) (out : Nat → List Nat) (dist : Nat → Int) (A : Nat → Option Addr) (C : Nat → Nat) (i m v : Nat) (W0 : World) (g : Nat) (a : Act) (w : World) : Prop :=
  ∃ (k : Nat) (z : Int) (s26 : Value), g = (out v).length - k ∧ k ≤ (out v).length ∧ w = W0 ∧ Lx dist ((out v).take k) (m : Int) z ∧ Fr5e a (.slice na n nc) (.slice oa n oc) (s5) (.int .i64 (s : Nat)) (.slice (some ⟨DB, 0, Option.none⟩) n n) (.int .i64 (L : Nat)) (.slice (some ⟨WB, 0, Option.none⟩) (i + 1) (L + 1)) (.int .i64 (v : Nat)) (.int .i64 ((m + 1 : Nat) : Int)) (.int .i64 z) (s26) (.slice (A v) (out v).length (C v)) (.int .i64 ((out v).length : Nat)) (.int .i64 (k : Nat))

/-- Where the outer loop stands. -/
def LeO (W : World) (WB DB n s L : Nat) (na oa : Option Addr) (nc oc : Nat) (s5 : Value) (out : Nat → List Nat) (dist nd : Nat → Int) (g : Nat) (a : Act) (w : World) : Prop :=
  ∃ (i m : Nat) (ps : List Nat) (s24 s26 s204 s205 s206 : Value), g = m ∧ i + m = L ∧ Gw out dist L s i ps ∧ E1 W w WB L nd ps ∧ Fr5e a (.slice na n nc) (.slice oa n oc) (s5) (.int .i64 (s : Nat)) (.slice (some ⟨DB, 0, Option.none⟩) n n) (.int .i64 (L : Nat)) (.slice (some ⟨WB, 0, Option.none⟩) (i + 1) (L + 1)) (.int .i64 (ps.getD i 0 : Nat)) (.int .i64 (m : Nat)) (s24) (s26) (s204) (s205) (s206)

theorem leWant {W w : World} {WB DB n s L : Nat} {na oa : Option Addr} {nc oc : Nat} {s5 s23 s24 s26 s204 s205 s206 : Value} {out : Nat → List Nat} {A : Nat → Option Addr} {C : Nat → Nat} {dist nd : Nat → Int} {a : Act} {Q' : Exit → Act → World → Prop}
    (hgr : Gr W oa n oc A C out) (hnd : SliceAt W na n nc (fun i => .int .i64 (nd i))) (hH : W.heap.size = WB) (hlen : ∀ i, i < n → (out i).length ≤ 1048576) (hin : ∀ i, i < n → ∀ y, y ∈ out i → y < n) (hs : s < n) (hD : Dist out s dist) (hrow : W.rowIs DB 3 n (fun i => .int .i64 (dist i)))
    (hL : L ≤ 65536) (hL0 : ∃ x, x ∈ out s ∧ dist x + 1 = (L : Int)) (hE : E1 W w WB L nd [s])
    (h0 : Fr5e a (.slice na n nc) (.slice oa n oc) (s5) (.int .i64 (s : Nat)) (.slice (some ⟨DB, 0, Option.none⟩) n n) (.int .i64 (L : Nat)) (.slice (some ⟨WB, 0, Option.none⟩) 1 (L + 1)) (.int .i64 (s : Nat)) (s23) (s24) (s26) (s204) (s205) (s206))
    (hZ : ∀ a' w' ps s22 s23 s24 s26 s204 s205 s206, Gw out dist L s L ps → E1 W w' WB L nd ps → Fr5e a' (.slice na n nc) (.slice oa n oc) (s5) (.int .i64 (s : Nat)) (.slice (some ⟨DB, 0, Option.none⟩) n n) (.int .i64 (L : Nat)) (.slice (some ⟨WB, 0, Option.none⟩) (L + 1) (L + 1)) (s22) (s23) (s24) (s26) (s204) (s205) (s206) → Q' .normal a' w') :
    Code.wp Try.prog (stm Try.f5.body 27) Q' a w := by
  have hbG : ∀ {w' : World}, Below WB W w' → Gr w' oa n oc A C out := fun h => RowsAt.below hgr (by rw [hH]; exact h)
  have hbN : ∀ {w' : World}, Below WB W w' → SliceAt w' na n nc (fun i => .int .i64 (nd i)) := fun h => SliceAt.below hnd (by rw [hH]; exact h)
  have hbR : ∀ {w' : World}, Below WB W w' → w'.rowIs DB 3 n (fun i => .int .i64 (dist i)) := fun h => hrow.of_block (h.block _ (by rw [← hH]; exact hrow.lt))
  rw [codeS27]
  refine wp_seq (le56 h0 fun a1 h1 => ?_)
  refine wp_block (wp_loop_ghost (LeO W WB DB n s L na oa nc oc s5 out dist nd) L ⟨0, L, [s], _, _, _, _, _, rfl, by omega, Gw.start out dist L s, hE, h1⟩ ?_)
  clear h0 hE h1
  rintro m a1 w1 ⟨i, _, ps, s24, s26, s204, s205, s206, rfl, him, hG, hE, h1⟩
  rw [codeL10e]
  refine wp_seq (le57 h1 (fun hm a2 h2 => ?_) (fun hm a2 h2 => ?_))
  rotate_left
  · obtain rfl : m = 0 := by omega
    obtain rfl : i = L := by omega
    exact then_hit2 (hZ _ _ _ _ _ _ _ _ _ _ hG hE h2)
  obtain ⟨m, rfl⟩ : ∃ q, m = q + 1 := ⟨m - 1, by omega⟩
  have hv : ps.getD i 0 < n := hG.in_range hs hin i (Nat.le_refl _)
  have hlv := hlen _ hv
  have hGr := hbG hE.bel
  have hdr := hbR hE.bel
  refine wp_seq (wp_block (wp_seq (le59 h2 fun a3 h3 => wp_seq (wp_seq (le60 hv (Gr.row hGr hv) h3 fun a4 h4 => ?_)))))
  refine wp_block (wp_loop_ghost (LeI WB DB n s L na oa nc oc s5 out dist A C i m (ps.getD i 0) w1) (out (ps.getD i 0)).length ⟨0, -1, _, rfl, Nat.zero_le _, rfl, .inl ⟨rfl, fun x hx => by simp at hx⟩, h4⟩ ?_)
  clear h1 h2 h3 h4
  rintro g a5 w5 ⟨k, z, s26', rfl, hk, rfl, hM, h5⟩
  rw [codeBL12]
  refine le61 _ h5 (fun hkl a6 h6 => ?_) (fun hkl a6 h6 => ?_)
  · have hx : (out (ps.getD i 0)).getD k 0 < n := hin _ hv _ (mem_getD hkl)
    have htk := take_getD hkl
    refine wp_seq (wp_block (wp_seq (le62 hkl (Gr.at hGr hv hkl) h6 fun a7 h7 => ?_)))
    generalize (out (ps.getD i 0)).getD k 0 = x at *
    refine le63 _ _ hx (by omega) (hdr.cell hx) h7 (fun c1 c2 a8 h8 => ?_) (fun hc a8 h8 => ?_)
    · refine le64 h8 fun a9 h9 => ?_
      refine le65 hkl hlv h9 fun a10 h10 => ?_
      exact ⟨(out (ps.getD i 0)).length - (k + 1), by omega, k + 1, _, _, rfl, hkl, rfl, by rw [htk]; exact hM.take c1 c2, h10⟩
    · refine wp_skip (le65 hkl hlv h8 fun a10 h10 => ?_)
      exact ⟨(out (ps.getD i 0)).length - (k + 1), by omega, k + 1, _, _, rfl, hkl, rfl, by rw [htk]; exact hM.leave hc, h10⟩
  · obtain rfl : k = (out (ps.getD i 0)).length := by omega
    rw [List.take_length] at hM
    refine then_hit ?_
    obtain ⟨x, hx1, hx2⟩ := hG.more hD (by omega) hL0
    have hmi : (L : Int) - i - 1 = (m : Int) := by omega
    rw [hmi] at hx2
    rcases hM with ⟨_, g2⟩ | ⟨y, g1, g2, g3, g4⟩
    · exact absurd hx2 (g2 x hx1)
    · subst g1
      have hy : y < n := hin _ hv _ g2
      have hpl := hG.len
      have hlt : (ps.map nd).length < L + 1 := by rw [List.length_map]; omega
      have hr := hE.want.run hlt (nd y)
      rw [List.length_map, hpl] at hr
      refine wp_seq (le66 h6 fun a7 h7 => wp_seq (le68 hy (SliceAt.at (hbN hE.bel) hy) hr h7 fun a8 h8 => le69 h8 fun a9 h9 => ?_))
      have hE2 := hE.push (by omega) y
      rw [hpl] at hE2
      refine le58 (by omega) h9 fun a10 h10 => ?_
      have hG2 := hG.add (y := y) ⟨g2, by rw [hmi]; exact g3, fun x hx hxd => g4 x hx (by rw [← hmi]; exact hxd)⟩
      have hly : (ps ++ [y]).getD (i + 1) 0 = y := by rw [← hpl]; exact getD_append_last _ _
      exact ⟨m, Nat.lt_succ_self _, i + 1, m, ps ++ [y], _, _, _, _, _, rfl, by omega, hG2, hE2, by rw [hly]; exact h10⟩

end Go.Proofs.Qxb6602460a
