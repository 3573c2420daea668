import Derived.Test.Qxb6602460aBl
namespace Go.Proofs.Qxb6602460a
open Go.RowKit Go.Maps Go.Own

/-- What the first pass keeps in memory. -/
structure K1 (W w : World) (H n : Nat) (s : KS) : Prop where
  bel : Below H W w
  vis : w.rowIs H 4 n (fun i => .bool (s.vis i))
  fin : Bl w (H + 1) n s.fin
  sn : Bl w (H + 2) n s.sn
  sx : Bl w (H + 3) n s.sx

variable {W w : World} {H n : Nat} {s : KS}

theorem then_hit2 {K K' : Act → World → Prop} {id : Nat} {Q : Exit → Act → World → Prop} {a : Act} {w : World} (h : Q .normal a w) : Exit.then K (Exit.then K' (Exit.inBlock id Q)) (.exit id) a w := inBlock_hit h

theorem K1.le (h : K1 W w H n s) : H ≤ w.heap.size := Nat.le_of_lt h.vis.lt

theorem K1.setVis (h : K1 W w H n s) (x : Nat) : K1 W (w.setCell ⟨H, x, Option.none⟩ (.bool true)) H n ⟨updB s.vis x true, s.fin, s.sn, s.sx⟩ :=
  ⟨h.bel.setCell (Nat.le_refl _) _, (h.vis.set x _).congr fun i _ => upd_rowB _ _ _ _, h.fin.setOther (by show H + 1 ≠ H; omega) _, h.sn.setOther (by show H + 2 ≠ H; omega) _, h.sx.setOther (by show H + 3 ≠ H; omega) _⟩

theorem K1.pushN (h : K1 W w H n s) (hlt : s.sn.length < n) (x : Nat) {z : Int} (hz : z = (x : Nat)) : K1 W ((w.alloc (.cells #[.int .i64 z] 3)).setCell ⟨H + 2, s.sn.length, Option.none⟩ (.int .i64 z)) H n ⟨s.vis, s.fin, s.sn ++ [x], s.sx⟩ :=
  ⟨(h.bel.alloc h.le _).setCell (by show H ≤ H + 2; omega) _, (h.vis.alloc _).of_block (heap_setCell_other _ _ _ _ (by show H ≠ H + 2; omega)), (h.fin.alloc _).setOther (by show H + 1 ≠ H + 2; omega) _, h.sn.append hlt hz, (h.sx.alloc _).setOther (by show H + 3 ≠ H + 2; omega) _⟩

theorem K1.pushX (h : K1 W w H n s) (hlt : s.sx.length < n) (x : Nat) {z : Int} (hz : z = (x : Nat)) : K1 W ((w.alloc (.cells #[.int .i64 z] 3)).setCell ⟨H + 3, s.sx.length, Option.none⟩ (.int .i64 z)) H n ⟨s.vis, s.fin, s.sn, s.sx ++ [x]⟩ :=
  ⟨(h.bel.alloc h.le _).setCell (by show H ≤ H + 3; omega) _, (h.vis.alloc _).of_block (heap_setCell_other _ _ _ _ (by show H ≠ H + 3; omega)), (h.fin.alloc _).setOther (by show H + 1 ≠ H + 3; omega) _, (h.sn.alloc _).setOther (by show H + 2 ≠ H + 3; omega) _, h.sx.append hlt hz⟩

theorem K1.pushF (h : K1 W w H n s) (hlt : s.fin.length < n) (x : Nat) {z : Int} (hz : z = (x : Nat)) : K1 W ((w.alloc (.cells #[.int .i64 z] 3)).setCell ⟨H + 1, s.fin.length, Option.none⟩ (.int .i64 z)) H n ⟨s.vis, s.fin ++ [x], s.sn, s.sx⟩ :=
  ⟨(h.bel.alloc h.le _).setCell (by show H ≤ H + 1; omega) _, (h.vis.alloc _).of_block (heap_setCell_other _ _ _ _ (by show H ≠ H + 1; omega)), h.fin.append hlt hz, (h.sn.alloc _).setOther (by show H + 2 ≠ H + 1; omega) _, (h.sx.alloc _).setOther (by show H + 3 ≠ H + 1; omega) _⟩

theorem K1.setX {vis : Nat → Bool} {fin sn sx : List Nat} {k y : Nat} (h : K1 W w H n ⟨vis, fin, sn, sx ++ [k]⟩) {z : Int} (hz : z = (y : Nat)) : K1 W (w.setCell ⟨H + 3, sx.length, Option.none⟩ (.int .i64 z)) H n ⟨vis, fin, sn, sx ++ [y]⟩ :=
  ⟨h.bel.setCell (by show H ≤ H + 3; omega) _, h.vis.of_block (heap_setCell_other _ _ _ _ (by show H ≠ H + 3; omega)), h.fin.setOther (by show H + 1 ≠ H + 3; omega) _, h.sn.setOther (by show H + 2 ≠ H + 3; omega) _, h.sx.set hz⟩

theorem K1.cut {vis : Nat → Bool} {fin sn sx : List Nat} {v k : Nat} (h : K1 W w H n ⟨vis, fin, sn ++ [v], sx ++ [k]⟩) : K1 W w H n ⟨vis, fin, sn, sx⟩ :=
  ⟨h.bel, h.vis, h.fin, Bl.cut h.sn, Bl.cut h.sx⟩

/-! ### The plain side -/
/-- With the bound on how far each row has been read. -/
def KW (out : Nat → List Nat) (n : Nat) (s : KS) : Prop := KInv out n s ∧ ∀ i, i < s.sn.length → s.sx.getD i 0 ≤ (out (s.sn.getD i 0)).length

def used (out : Nat → List Nat) (s : KS) : Nat := sumf (fun x => (out x).length + 1) s.fin + sumf id s.sx

variable {out : Nat → List Nat}

theorem KW.used_le (h : KW out n s) : used out s ≤ tot (fun x => (out x).length + 1) n := by
  have h1 := sumf_pw (fun x => (out x).length + 1) s.sn s.sx h.1.len (fun i hi => Nat.le_succ_of_le (h.2 i hi))
  have h2 := sumf_le (fun x => (out x).length + 1) n (s.fin ++ s.sn) h.1.nd (fun x hx => h.1.lt x ((h.1.vis x).2 (List.mem_append.1 hx)))
  rw [sumf_append] at h2
  unfold used
  omega

theorem KInv.bump (h : KInv out n s) {sx' : List Nat} {j : Nat} (hlen : sx'.length = s.sx.length) (hother : ∀ i, i ≠ j → sx'.getD i 0 = s.sx.getD i 0) (hat : sx'.getD j 0 = s.sx.getD j 0 + 1) (hvis : s.vis ((out (s.sn.getD j 0)).getD (s.sx.getD j 0) 0) = true) : KInv out n ⟨s.vis, s.fin, s.sn, sx'⟩ := by
  refine ⟨by rw [hlen]; exact h.len, h.vis, h.nd, h.lt, h.chain, ?_, h.blk, h.jj⟩
  intro i hi q hq hq2
  by_cases e : i = j
  · subst e
    simp only at hq
    rw [hat] at hq
    by_cases eq : q = s.sx.getD i 0
    · subst eq; exact hvis
    · exact h.nxt i hi q (by omega) hq2
  · simp only at hq
    rw [hother i e] at hq
    exact h.nxt i hi q hq hq2

theorem getD_other {l t : List Nat} {x y i : Nat} (h : i ≠ l.length) : (l ++ [y] ++ t).getD i 0 = (l ++ [x] ++ t).getD i 0 := by
  rcases Nat.lt_or_ge i l.length with hl | hl
  · rw [List.append_assoc, List.append_assoc, getD_append_left hl, getD_append_left hl]
  · simp only [List.getD_eq_getElem?_getD]
    rw [List.getElem?_append_right (by simp; omega), List.getElem?_append_right (by simp; omega)]
    simp

theorem getD_midst {l t : List Nat} {x : Nat} : (l ++ [x] ++ t).getD l.length 0 = x := by
  rw [getD_append_left (by simp), getD_append_last]

variable {vis : Nat → Bool} {fin sn sx : List Nat} {v k x : Nat}

theorem KW.start (h : KInv out n ⟨vis, fin, [], []⟩) (hx : vis x = false) (hlt : x < n) : KW out n ⟨updB vis x true, fin, [x], [0]⟩ :=
  ⟨KInv.push h hx hlt (fun y hy => by cases hy), fun i hi => by
    have : i = 0 := by simp at hi; omega
    subst this
    exact Nat.zero_le _⟩

theorem KW.next (h : KW out n ⟨vis, fin, sn ++ [v], sx ++ [k]⟩) (hk : k < (out v).length) (hv : vis ((out v).getD k 0) = true) : KW out n ⟨vis, fin, sn ++ [v], sx ++ [k + 1]⟩ := by
  have hl : sn.length = sx.length := by have := h.1.len; simpa using this
  refine ⟨KInv.next (s := ⟨vis, fin, [], []⟩) h.1 hv, fun i hi => ?_⟩
  by_cases e : i = sn.length
  · subst e
    simp only
    rw [hl, getD_append_last, ← hl, getD_append_last]
    exact hk
  · have hi' : i < sn.length := by simp at hi; omega
    have := h.2 i hi
    simp only at this ⊢
    rw [getD_append_left (by omega)] at this ⊢
    exact this

theorem KW.step (h : KW out n ⟨vis, fin, sn ++ [v], sx ++ [k]⟩) (hk : k < (out v).length) (he : (out v).getD k 0 = x) (hv : vis x = false) (hlt : x < n) : KW out n ⟨updB vis x true, fin, sn ++ [v] ++ [x], sx ++ [k + 1] ++ [0]⟩ := by
  have hl : sn.length = sx.length := by have := h.1.len; simpa using this
  have hE : EO out v x := by rw [← he]; exact mem_getD hk
  have hch := h.1.chain
  simp only at hch
  rw [List.pairwise_append] at hch
  have h1 := KInv.push h.1 hv hlt (fun y hy => by
    rcases List.mem_append.1 hy with hy | hy
    · exact (hch.2.2 y hy v (by simp)).trans (.one hE)
    · simp at hy; subst hy; exact .one hE)
  refine ⟨KInv.bump (j := sn.length) (sx' := sx ++ [k + 1] ++ [0]) h1 (by simp) (fun i hi => ?_) ?_ ?_, fun i hi => ?_⟩
  · exact getD_other (by omega)
  · simp only
    rw [hl, getD_midst, getD_midst]
  · simp only
    rw [getD_midst, hl, getD_midst, he, updB_same]
  · simp only
    by_cases e : i = sn.length
    · subst e
      rw [hl, getD_midst, ← hl, getD_midst]; exact hk
    · by_cases e2 : i = sn.length + 1
      · subst e2
        have : (sx ++ [k + 1] ++ [0]).getD (sn.length + 1) 0 = 0 := by
          have := getD_append_last (sx ++ [k + 1]) 0
          rw [show (sx ++ [k + 1]).length = sn.length + 1 by simp [hl]] at this
          exact this
        rw [this]; exact Nat.zero_le _
      · have hi' : i < sn.length := by simp at hi; omega
        have := h.2 i (by simp; omega)
        simp only at this
        rw [getD_append_left (by omega), getD_append_left hi'] at this
        rw [List.append_assoc, List.append_assoc, getD_append_left (by omega), getD_append_left hi']
        exact this

theorem KW.pop (h : KW out n ⟨vis, fin, sn ++ [v], sx ++ [k]⟩) (hk : ¬ k < (out v).length) : KW out n ⟨vis, fin ++ [v], sn, sx⟩ ∧ k = (out v).length := by
  have hl : sn.length = sx.length := by have := h.1.len; simpa using this
  refine ⟨⟨KInv.pop (s := ⟨vis, fin, [], []⟩) h.1 (by omega), fun i hi => ?_⟩, ?_⟩
  · have hi' : i < sn.length := hi
    have := h.2 i (by simp; omega)
    simp only at this ⊢
    rw [getD_append_left (by omega), getD_append_left hi'] at this
    exact this
  · have := h.2 sn.length (by simp)
    simp only at this
    rw [getD_append_last, hl, getD_append_last] at this
    omega

end Go.Proofs.Qxb6602460a
