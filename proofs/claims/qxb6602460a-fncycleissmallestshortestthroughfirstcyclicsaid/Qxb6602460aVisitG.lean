import Derived.Test.Qxb6602460aVisitD
import Derived.Test.Qxb6602460aVisitF
namespace Go.Proofs.Qxb6602460a
open Go.RowKit Go.Maps Go.Own

theorem code7 : stm Try.f41.body 7 = .block 3 (.loop (.seq (headC (innerC (innerC (stm Try.f41.body 7)))) (.block 4 (innerC (tailC (innerC (innerC (stm Try.f41.body 7)))))))) := rfl
theorem code8 : stm Try.f41.body 8 = .seq (headC (stm Try.f41.body 8)) (.block 5 (.loop (innerC (innerC (tailC (stm Try.f41.body 8)))))) := rfl
theorem code8L : innerC (innerC (tailC (stm Try.f41.body 8))) = .seq (headC (innerC (innerC (tailC (stm Try.f41.body 8))))) (.seq (headC (tailC (innerC (innerC (tailC (stm Try.f41.body 8)))))) (.seq (.block 6 (.seq (headC (innerC (headC (tailC (tailC (innerC (innerC (tailC (stm Try.f41.body 8))))))))) (.seq (headC (tailC (innerC (headC (tailC (tailC (innerC (innerC (tailC (stm Try.f41.body 8)))))))))) (tailC (tailC (innerC (headC (tailC (tailC (innerC (innerC (tailC (stm Try.f41.body 8)))))))))))))
      (tailC (tailC (tailC (innerC (innerC (tailC (stm Try.f41.body 8))))))))) := rfl

theorem OwnI.cell {w : World} {base b L C : Nat} {xs : List Nat} (h : OwnI w base (.slice (some ⟨b, 0, Option.none⟩) L C) xs) {i : Nat} (hi : i < xs.length) : w.cell? ⟨b, i, Option.none⟩ = some (.int .i64 (xs.getD i 0 : Nat)) := by
  have := World.ownsRow.cells (g := b) h rfl i (.int .i64 (xs.getD i 0 : Nat)) (by simp [iv, List.getD_eq_getElem?_getD, hi])
  rw [add_none, Nat.zero_add] at this
  exact this

theorem getD_mid (A B : List Nat) (v j : Nat) : (A ++ v :: B).getD (A.length + j) 0 = (v :: B).getD j 0 := by
  simp [List.getD_eq_getElem?_getD, List.getElem?_append_right]

/-- Half popped. -/
def tPopK (Cs : List Nat) (k : Nat) (c : TS) : TS := ⟨c.ord, c.low, fun x => if x ∈ Cs.take k then false else c.onS x, fun x => if x ∈ Cs.take k then decide (1 < Cs.length) else c.cyc x, c.stk, c.step⟩

theorem tPopK_zero (Cs : List Nat) (c : TS) : tPopK Cs 0 c = c := by
  unfold tPopK; simp
theorem tPopK_succ {Cs : List Nat} {k : Nat} (h : k < Cs.length) (c : TS) : (⟨c.ord, c.low, updB (tPopK Cs k c).onS (Cs.getD k 0) false, updB (tPopK Cs k c).cyc (Cs.getD k 0) (decide (1 < Cs.length)), c.stk, c.step⟩ : TS) = tPopK Cs (k + 1) c := by
  have e := take_getD h
  unfold tPopK
  rw [e]
  congr 1
  · funext x
    simp only [updB, List.mem_append, List.mem_singleton]
    by_cases h1 : x = Cs.getD k 0 <;> by_cases h2 : x ∈ Cs.take k <;> simp [h1, h2]
  · funext x
    simp only [updB, List.mem_append, List.mem_singleton]
    by_cases h1 : x = Cs.getD k 0 <;> by_cases h2 : x ∈ Cs.take k <;> simp [h1, h2]

/-- Where the loop that pops stands. -/
def V8I (W : World) (H n v : Nat) (na oa : Option Addr) (nc oc : Nat) (i C b : Nat) (B : List Nat) (c : TS) (a : Act) (w : World) : Prop :=
  ∃ k t14, k ≤ B.length + 1 ∧ Fr41d a (.int .i64 (v : Nat)) (.pointer (some ⟨H + 10, 0, Option.none⟩)) (.pointer (some ⟨H + 2, 0, Option.none⟩)) (.pointer (some ⟨H + 4, 0, Option.none⟩)) (.pointer (some ⟨H + 9, 0, Option.none⟩)) (.pointer (some ⟨H + 6, 0, Option.none⟩)) (.pointer (some ⟨H, 0, Option.none⟩)) (.pointer (some ⟨H + 11, 0, Option.none⟩)) (.pointer (some ⟨H + 8, 0, Option.none⟩)) (.int .i64 (i : Nat)) t14 (.slice (some ⟨b, i, Option.none⟩) (B.length + 1) (C - i)) (.int .i64 ((B.length + 1 : Nat) : Int)) (.int .i64 (k : Nat)) ∧
    VS w H n (vF H) na oa nc oc (tPopK (v :: B) k c) ∧ Below H W w ∧ w.rowIs (H + 9) 22 1 (fun _ => .slice (some ⟨b, 0, Option.none⟩) c.stk.length C) ∧ OwnI w (H + 12) (.slice (some ⟨b, 0, Option.none⟩) c.stk.length C) c.stk

theorem visit78 {W w : World} {H n v : Nat} {na oa : Option Addr} {nc oc : Nat} {c : TS} {Q : Exit → Act → World → Prop} {a : Act} {A B : List Nat} {s12 : Value}
    (hV : VS w H n (vF H) na oa nc oc c) (hB : Below H W w) (hst : c.stk = A ++ v :: B) (hvB : v ∉ B) (hn : ∀ x, x ∈ c.stk → x < n) (hl : c.stk.length ≤ 65536)
    (hF : Fr41 a (.int .i64 (v : Nat)) (.pointer (some ⟨H + 10, 0, Option.none⟩)) (.pointer (some ⟨H + 2, 0, Option.none⟩)) (.pointer (some ⟨H + 4, 0, Option.none⟩)) (.pointer (some ⟨H + 9, 0, Option.none⟩)) (.pointer (some ⟨H + 6, 0, Option.none⟩)) (.pointer (some ⟨H, 0, Option.none⟩)) (.pointer (some ⟨H + 11, 0, Option.none⟩)) (.pointer (some ⟨H + 8, 0, Option.none⟩)) s12)
    (hZ : ∀ a' w', a'.defers = [] → VS w' H n (vF H) na oa nc oc (tPop A (v :: B) c) → Below H W w' → Q .normal a' w') :
    Code.wp Try.prog (.seq (stm Try.f41.body 6) (.seq (stm Try.f41.body 7) (.seq (stm Try.f41.body 8) (rst Try.f41.body 9)))) Q a w := by
  have hL : c.stk.length = A.length + B.length + 1 := by rw [hst]; simp; omega
  refine wp_seq (v6 hV hL (by omega) hF fun a1 h1 => ?_)
  refine wp_seq ?_
  rw [code7]
  refine wp_block (wp_loop (fun a' w' => w' = w ∧ ∃ j, j ≤ B.length ∧ Fr41 a' (.int .i64 (v : Nat)) (.pointer (some ⟨H + 10, 0, Option.none⟩)) (.pointer (some ⟨H + 2, 0, Option.none⟩)) (.pointer (some ⟨H + 4, 0, Option.none⟩)) (.pointer (some ⟨H + 9, 0, Option.none⟩)) (.pointer (some ⟨H + 6, 0, Option.none⟩)) (.pointer (some ⟨H, 0, Option.none⟩)) (.pointer (some ⟨H + 11, 0, Option.none⟩)) (.pointer (some ⟨H + 8, 0, Option.none⟩)) (.int .i64 ((A.length + j : Nat) : Int))) (fun a' _ => (intOf (a'.tmps.getD 12 undef)).toNat) ⟨rfl, B.length, Nat.le_refl _, h1⟩ ?_)
  rintro a2 w2 ⟨rfl, j, hj, h2⟩
  have hmu : (intOf (a2.tmps.getD 12 undef)).toNat = A.length + j := by rw [h2.e12]; simp [intOf]; omega
  have hget : c.stk.getD (A.length + j) 0 = (v :: B).getD j 0 := by rw [hst]; exact getD_mid _ _ _ _
  refine wp_seq (v7a hV (i := A.length + j) (by omega) h2 (fun hx a3 h3 => ?_) (fun hx a3 h3 => ?_))
  · cases j with
    | zero => rw [hget] at hx; exact absurd rfl hx
    | succ j =>
      refine wp_block (v7b (i := A.length + j) (by omega) h3 fun a4 h4 => ?_)
      refine ⟨⟨rfl, j, by omega, h4⟩, ?_⟩
      rw [hmu, h4.e12]; simp [intOf]; omega
  · cases j with
    | succ j =>
      rw [hget] at hx
      exfalso
      refine hvB ?_
      rw [← hx]
      have : (v :: B).getD (j + 1) 0 = B.getD j 0 := by simp [List.getD_eq_getElem?_getD]
      rw [this]
      exact mem_getD (by omega)
    | zero =>
      show Exit.inBlock 3 (Exit.then (Code.wp Try.prog ((stm Try.f41.body 8).seq (rst Try.f41.body 9)) Q) Q) (.exit 3) a3 w2
      refine inBlock_hit ?_
      show Code.wp Try.prog _ Q a3 w2
      clear hmu hget hx h2
      obtain ⟨AA, C, hr, ho, hC, hc⟩ := hV.stack
      obtain ⟨b, rfl, hb, -⟩ := hc (by omega)
      clear hc
      refine wp_seq ?_
      rw [code8]
      have hr' := hr
      rw [show c.stk.length = A.length + (B.length + 1) by omega] at hr'
      refine wp_seq (v8 (i := A.length) (m := B.length + 1) hr' (by omega) (by omega) (s14 := a3.tmps.getD 14 undef) (s103 := a3.tmps.getD 103 undef) (s104 := a3.tmps.getD 104 undef) (s105 := a3.tmps.getD 105 undef) ⟨h3.size, h3.defers, h3.e0, h3.e1, h3.e2, h3.e3, h3.e4, h3.e5, h3.e6, h3.e7, h3.e8, h3.e12, rfl, rfl, rfl, rfl⟩ fun a4 h4 => ?_)
      clear hr'
      refine wp_block (wp_loop (V8I W H n v na oa nc oc A.length C b B c) (fun a' _ => B.length + 1 - (intOf (a'.tmps.getD 105 undef)).toNat) ⟨0, _, Nat.zero_le _, h4, by rw [tPopK_zero]; exact hV, hB, hr, ho⟩ ?_)
      rintro a5 w5 ⟨k, t14, hk, h5, hV5, hB5, hr5, ho5⟩
      have hmu : B.length + 1 - (intOf (a5.tmps.getD 105 undef)).toNat = B.length + 1 - k := by rw [h5.e105]; simp [intOf]
      rw [code8L]
      refine v9a _ h5 (fun hlt a6 h6 => ?_) (fun hnl a6 h6 => ?_)
      · have hx : c.stk.getD (A.length + k) 0 = (v :: B).getD k 0 := by rw [hst]; exact getD_mid _ _ _ _
        have hcell := OwnI.cell ho5 (i := A.length + k) (by omega)
        have hxn : (v :: B).getD k 0 < n := by
          rw [← hx]; exact hn _ (mem_getD (by omega))
        rw [hx] at hcell
        refine wp_seq (wp_block (wp_seq (v9b hlt hcell h6 fun a7 h7 => wp_seq (v9c hV5 hxn h7 fun a8 h8 => ?_))))
        have hV8 := hV5.setOn ((v :: B).getD k 0) false
        refine v9d hV8 hxn (i := A.length) (m := B.length + 1) (show c.stk.length = _ by omega) (by omega) h8 fun a9 h9 => ?_
        have hV9 := hV8.setCyc ((v :: B).getD k 0) (decide (1 < B.length + 1))
        refine v9e hlt (by omega) h9 fun a10 h10 => ?_
        refine ⟨⟨k + 1, _, by omega, h10, ?_, (hB5.setCell (p := ⟨H + 5, _, Option.none⟩) (Nat.le_add_right _ _) _).setCell (p := ⟨H + 7, _, Option.none⟩) (Nat.le_add_right _ _) _, (hr5.of_block (heap_setCell_other _ _ _ _ (by simp))).of_block (heap_setCell_other _ _ _ _ (by simp)), ownsRow_setCell_below (ownsRow_setCell_below ho5 (by simp) _) (by simp) _⟩, ?_⟩
        · rw [← tPopK_succ (Cs := v :: B) (k := k) (by simp; omega) c]
          exact hV9
        · rw [hmu, h10.e105]; simp [intOf]; omega
      · obtain rfl : k = B.length + 1 := by omega
        show Exit.inBlock 5 (Exit.then (Code.wp Try.prog (rst Try.f41.body 9) Q) Q) (.exit 5) a6 w5
        refine inBlock_hit ?_
        show Code.wp Try.prog _ Q a6 w5
        refine v10 (i := A.length) hr5 (by omega) (Nat.le_trans (Nat.le_refl _) hC) ⟨h6.size, h6.defers, h6.e0, h6.e1, h6.e2, h6.e3, h6.e4, h6.e5, h6.e6, h6.e7, h6.e8, h6.e12⟩ fun a7 h7 => ?_
        have htk := OwnI.take ho5 (i := A.length) (by omega)
        rw [show c.stk.take A.length = A by rw [hst]; simp] at htk
        have := hV5.setStk htk
        have e : (v :: B).take (B.length + 1) = v :: B := by simp
        refine hZ _ _ h7.defers ?_ (hB5.setCell (p := ⟨H + 9, 0, Option.none⟩) (Nat.le_add_right _ _) _)
        unfold tPopK at this
        rw [e] at this
        exact this

theorem visit {W : World} {H n : Nat} {na oa : Option Addr} {nc oc : Nat} {out : Nat → List Nat} {A : Nat → Option Addr} {C : Nat → Nat}
    (hgr : Gr W oa n oc A C out) (hH : W.heap.size = H) (hn : n ≤ 65536) (hin : ∀ i, i < n → ∀ y, y ∈ out i → y < n) (hlen : ∀ i, i < n → (out i).length ≤ 1048576) (m : Nat) :
    VIH W H n na oa nc oc out m := by
  induction m with
  | zero =>
    intro x G s w hw _ _ _ hx hxn
    exfalso
    have : x ∈ (List.range n).filter (fun x => s.ord x == 0) := by simp [hx, hxn]
    have := List.length_pos_of_mem this
    unfold wc at hw
    omega
  | succ m ih =>
    intro v G s w hw hV hB hT hv0 hv hre hfit
    have hsrt : s.step < 65536 ∧ s.stk.length < 65536 := by
      have hp : 0 < wc s n := by
        have : v ∈ (List.range n).filter (fun x => s.ord x == 0) := by simp [hv0, hv]
        exact List.length_pos_of_mem this
      have := hfit.1; have := hfit.2
      omega
    unfold vA
    go_enter Try.func41, Try.ntmps41
    show Code.wp Try.prog (.seq (stm Try.f41.body 0) (.seq (stm Try.f41.body 1) (.seq (stm Try.f41.body 2) (.seq (stm Try.f41.body 3) (.seq (stm Try.f41.body 4) (.seq (stm Try.f41.body 5) (.seq (stm Try.f41.body 6) (.seq (stm Try.f41.body 7) (.seq (stm Try.f41.body 8) (rst Try.f41.body 9)))))))))) _ _ _
    refine visit03 H n v (vF H) na oa nc oc s w _ _ _ _ hV hsrt.1 hsrt.2 hv ⟨rfl, rfl, rfl, rfl, rfl, rfl, rfl, rfl, rfl, rfl, rfl, rfl⟩ ?_
    intro a1 w1 h1 b1 v1
    have hT1 := TLoop.start hT hv0 hv hre
    have hlt1 : wc (tStart v s) n < wc s n := wc_lt (fun x hx => by rw [(hT1.ext.old x hx).1]; exact hx) hv hv0 (by rw [hT1.vo]; omega)
    have hfit1 : Fit (tStart v s) n := ⟨by have := hfit.1; show s.step + 1 + _ ≤ n; omega, by have := hfit.2; show (s.stk ++ [v]).length ≤ s.step + 1; simp; omega⟩
    refine wp_seq (visit4 ih hgr hH hv hin (hlen v hv) ⟨_, by rw [List.take_zero]; exact hT1, v1, hB.trans b1, hfit1, by omega⟩ h1 fun a2 w2 t12 h2 hL => ?_)
    obtain ⟨c, hT2, hV2, hB2, hF2, -⟩ := hL
    rw [List.take_length] at hT2
    refine wp_seq (v5 hV2 hv h2 (fun hne a3 j h3 => ?_) (fun heq a3 j h3 => ?_))
    · have hP := hT2.leave (fun _ h => h) hne
      simp only [Exit.then]
      refine bodyPost_ret (results_none rfl _ _ _) h3.defers ?_
      exact ⟨c, rfl, hP, hV2.drewN j, below_drewN' hB2 j, hF2⟩
    · obtain ⟨As, Bs, hst⟩ := List.append_of_mem ((hT2.inv.mem v).2 (hT2.inv.gry v (by simp)))
      have hsr := hT2.inv.srt
      rw [hst, List.pairwise_append] at hsr
      have hvB : v ∉ Bs := fun hm => Nat.lt_irrefl _ ((List.pairwise_cons.1 hsr.2.1).1 v hm)
      refine visit78 (hV2.drewN j) (below_drewN' hB2 j) hst hvB (fun x hx => hT2.inv.lt x (hT2.inv.son x ((hT2.inv.mem x).1 hx))) (by have := hF2.1; have := hF2.2; omega) h3 fun a4 w4 hd4 hV4 hB4 => ?_
      have hP := hT2.pop (fun _ h => h) heq hst
      refine bodyPost_end (results_none rfl _ _ _) hd4 ?_
      exact ⟨_, rfl, hP, hV4, hB4, hF2.1, by have := hF2.2; rw [hst] at this; simp at this; show As.length ≤ c.step; omega⟩
end Go.Proofs.Qxb6602460a
