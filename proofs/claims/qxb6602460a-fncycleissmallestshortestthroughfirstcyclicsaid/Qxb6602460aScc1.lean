import Derived.Test.Qxb6602460aSccK
import Derived.Test.Qxb6602460aSc1
namespace Go.Proofs.Qxb6602460a
open Go.RowKit Go.Maps Go.Own

theorem codeS6 : (stm Try.f15.body 6) = .seq (headC (stm Try.f15.body 6)) (.block 0 (.loop (innerC (innerC (tailC (stm Try.f15.body 6)))))) := rfl
theorem codeL1 : (innerC (innerC (tailC (stm Try.f15.body 6)))) = .seq (headC (innerC (innerC (tailC (stm Try.f15.body 6))))) (.seq (.block 1 (innerC (headC (tailC (innerC (innerC (tailC (stm Try.f15.body 6)))))))) (tailC (tailC (innerC (innerC (tailC (stm Try.f15.body 6))))))) := rfl
theorem codeI1 : (innerC (headC (tailC (innerC (innerC (tailC (stm Try.f15.body 6))))))) = .seq (.seq (headC (headC (innerC (headC (tailC (innerC (innerC (tailC (stm Try.f15.body 6))))))))) (.cond (.tmp 45) (.exit 1) .skip)) (.seq (headC (tailC (innerC (headC (tailC (innerC (innerC (tailC (stm Try.f15.body 6))))))))) (.seq (headC (tailC (tailC (innerC (headC (tailC (innerC (innerC (tailC (stm Try.f15.body 6)))))))))) (.seq (headC (tailC (tailC (tailC (innerC (headC (tailC (innerC (innerC (tailC (stm Try.f15.body 6))))))))))) (.block 2 (.loop (innerC (innerC (tailC (tailC (tailC (tailC (innerC (headC (tailC (innerC (innerC (tailC (stm Try.f15.body 6)))))))))))))))))) := rfl
theorem codeL2 : (innerC (innerC (tailC (tailC (tailC (tailC (innerC (headC (tailC (innerC (innerC (tailC (stm Try.f15.body 6))))))))))))) = .seq (headC (innerC (innerC (tailC (tailC (tailC (tailC (innerC (headC (tailC (innerC (innerC (tailC (stm Try.f15.body 6)))))))))))))) (.block 3 (innerC (tailC (innerC (innerC (tailC (tailC (tailC (tailC (innerC (headC (tailC (innerC (innerC (tailC (stm Try.f15.body 6)))))))))))))))) := rfl
theorem codeI3 : (innerC (tailC (innerC (innerC (tailC (tailC (tailC (tailC (innerC (headC (tailC (innerC (innerC (tailC (stm Try.f15.body 6))))))))))))))) = .seq (headC (innerC (tailC (innerC (innerC (tailC (tailC (tailC (tailC (innerC (headC (tailC (innerC (innerC (tailC (stm Try.f15.body 6)))))))))))))))) (.seq (headC (tailC (innerC (tailC (innerC (innerC (tailC (tailC (tailC (tailC (innerC (headC (tailC (innerC (innerC (tailC (stm Try.f15.body 6))))))))))))))))) (.seq (headC (tailC (tailC (innerC (tailC (innerC (innerC (tailC (tailC (tailC (tailC (innerC (headC (tailC (innerC (innerC (tailC (stm Try.f15.body 6)))))))))))))))))) (.seq (headC (tailC (tailC (tailC (innerC (tailC (innerC (innerC (tailC (tailC (tailC (tailC (innerC (headC (tailC (innerC (innerC (tailC (stm Try.f15.body 6))))))))))))))))))) (.cond (.tmp 76) (condT (tailC (tailC (tailC (tailC (innerC (tailC (innerC (innerC (tailC (tailC (tailC (tailC (innerC (headC (tailC (innerC (innerC (tailC (stm Try.f15.body 6)))))))))))))))))))) (condF (tailC (tailC (tailC (tailC (innerC (tailC (innerC (innerC (tailC (tailC (tailC (tailC (innerC (headC (tailC (innerC (innerC (tailC (stm Try.f15.body 6)))))))))))))))))))))))) := rfl
theorem codeT : (condT (tailC (tailC (tailC (tailC (innerC (tailC (innerC (innerC (tailC (tailC (tailC (tailC (innerC (headC (tailC (innerC (innerC (tailC (stm Try.f15.body 6)))))))))))))))))))) = .seq (headC (condT (tailC (tailC (tailC (tailC (innerC (tailC (innerC (innerC (tailC (tailC (tailC (tailC (innerC (headC (tailC (innerC (innerC (tailC (stm Try.f15.body 6))))))))))))))))))))) (.seq (headC (tailC (condT (tailC (tailC (tailC (tailC (innerC (tailC (innerC (innerC (tailC (tailC (tailC (tailC (innerC (headC (tailC (innerC (innerC (tailC (stm Try.f15.body 6)))))))))))))))))))))) (.seq (headC (tailC (tailC (condT (tailC (tailC (tailC (tailC (innerC (tailC (innerC (innerC (tailC (tailC (tailC (tailC (innerC (headC (tailC (innerC (innerC (tailC (stm Try.f15.body 6))))))))))))))))))))))) (.cond (.tmp 93) (condT (tailC (tailC (tailC (condT (tailC (tailC (tailC (tailC (innerC (tailC (innerC (innerC (tailC (tailC (tailC (tailC (innerC (headC (tailC (innerC (innerC (tailC (stm Try.f15.body 6)))))))))))))))))))))))) .skip))) := rfl
theorem codeT2 : (condT (tailC (tailC (tailC (condT (tailC (tailC (tailC (tailC (innerC (tailC (innerC (innerC (tailC (tailC (tailC (tailC (innerC (headC (tailC (innerC (innerC (tailC (stm Try.f15.body 6)))))))))))))))))))))))) = .seq (headC (condT (tailC (tailC (tailC (condT (tailC (tailC (tailC (tailC (innerC (tailC (innerC (innerC (tailC (tailC (tailC (tailC (innerC (headC (tailC (innerC (innerC (tailC (stm Try.f15.body 6))))))))))))))))))))))))) (.seq (headC (tailC (condT (tailC (tailC (tailC (condT (tailC (tailC (tailC (tailC (innerC (tailC (innerC (innerC (tailC (tailC (tailC (tailC (innerC (headC (tailC (innerC (innerC (tailC (stm Try.f15.body 6)))))))))))))))))))))))))) (tailC (tailC (condT (tailC (tailC (tailC (condT (tailC (tailC (tailC (tailC (innerC (tailC (innerC (innerC (tailC (tailC (tailC (tailC (innerC (headC (tailC (innerC (innerC (tailC (stm Try.f15.body 6))))))))))))))))))))))))))) := rfl
theorem codeFF : (condF (tailC (tailC (tailC (tailC (innerC (tailC (innerC (innerC (tailC (tailC (tailC (tailC (innerC (headC (tailC (innerC (innerC (tailC (stm Try.f15.body 6)))))))))))))))))))) = .seq (headC (condF (tailC (tailC (tailC (tailC (innerC (tailC (innerC (innerC (tailC (tailC (tailC (tailC (innerC (headC (tailC (innerC (innerC (tailC (stm Try.f15.body 6))))))))))))))))))))) (.seq (headC (tailC (condF (tailC (tailC (tailC (tailC (innerC (tailC (innerC (innerC (tailC (tailC (tailC (tailC (innerC (headC (tailC (innerC (innerC (tailC (stm Try.f15.body 6)))))))))))))))))))))) (tailC (tailC (condF (tailC (tailC (tailC (tailC (innerC (tailC (innerC (innerC (tailC (tailC (tailC (tailC (innerC (headC (tailC (innerC (innerC (tailC (stm Try.f15.body 6))))))))))))))))))))))) := rfl

/-- Where the outer loop stands. -/
def KO (W : World) (H n : Nat) (oa : Option Addr) (oc : Nat) (out : Nat → List Nat) (g : Nat) (a : Act) (w : World) : Prop :=
  ∃ (k : Nat) (vis : Nat → Bool) (fin : List Nat) (s9 s10 s11 s12 : Value), g = n - k ∧ k ≤ n ∧ KInv out n ⟨vis, fin, [], []⟩ ∧ (∀ x, x < k → vis x = true) ∧ K1 W w H n ⟨vis, fin, [], []⟩ ∧ Fr15 a (.slice oa n oc) (.int .i64 (n : Nat)) (.slice (some ⟨H, 0, Option.none⟩) n n) (.slice (some ⟨(H + 1), 0, Option.none⟩) fin.length n) (.slice (some ⟨(H + 2), 0, Option.none⟩) 0 n) (.slice (some ⟨(H + 3), 0, Option.none⟩) 0 n) (.int .i64 (k : Nat)) (s9) (s10) (s11) (s12)

/-- Where the inner loop stands. -/
def KI (W : World) (H n : Nat) (oa : Option Addr) (oc : Nat) (out : Nat → List Nat) (k : Nat) (g : Nat) (a : Act) (w : World) : Prop :=
  ∃ (s : KS) (s9 s10 s11 s12 : Value), g = tot (fun x => (out x).length + 1) n - used out s ∧ KW out n s ∧ (∀ x, x < k + 1 → s.vis x = true) ∧ K1 W w H n s ∧ Fr15 a (.slice oa n oc) (.int .i64 (n : Nat)) (.slice (some ⟨H, 0, Option.none⟩) n n) (.slice (some ⟨(H + 1), 0, Option.none⟩) s.fin.length n) (.slice (some ⟨(H + 2), 0, Option.none⟩) s.sn.length n) (.slice (some ⟨(H + 3), 0, Option.none⟩) s.sx.length n) (.int .i64 (k : Nat)) (s9) (s10) (s11) (s12)

theorem updB_mono {vis : Nat → Bool} {x y : Nat} (h : vis x = true) : updB vis y true x = true := by
  by_cases e : x = y
  · subst e; exact updB_same _ _ _
  · rw [updB_other _ _ e]; exact h

theorem scRound {W w : World} {H n : Nat} {oa : Option Addr} {oc : Nat} {out : Nat → List Nat} {A : Nat → Option Addr} {C : Nat → Nat} {a : Act} {Q' : Exit → Act → World → Prop} {k g : Nat} (hn : n ≤ 65536) (hgr : Gr W oa n oc A C out) (hH : W.heap.size = H) (hin : ∀ i, i < n → ∀ y, y ∈ out i → y < n) (hlen : ∀ i, i < n → (out i).length ≤ 1048576) (hg : KI W H n oa oc out k g a w)
    (hZ : ∀ a' w' g', g' < g → KI W H n oa oc out k g' a' w' → Q' .normal a' w')
    (hE : ∀ a' w' vis fin s9 s10 s11 s12, KInv out n ⟨vis, fin, [], []⟩ → (∀ x, x < k + 1 → vis x = true) → K1 W w' H n ⟨vis, fin, [], []⟩ → Fr15 a' (.slice oa n oc) (.int .i64 (n : Nat)) (.slice (some ⟨H, 0, Option.none⟩) n n) (.slice (some ⟨(H + 1), 0, Option.none⟩) fin.length n) (.slice (some ⟨(H + 2), 0, Option.none⟩) 0 n) (.slice (some ⟨(H + 3), 0, Option.none⟩) 0 n) (.int .i64 (k : Nat)) (s9) (s10) (s11) (s12) → Q' (.exit 2) a' w') :
    Code.wp Try.prog (innerC (innerC (tailC (tailC (tailC (tailC (innerC (headC (tailC (innerC (innerC (tailC (stm Try.f15.body 6))))))))))))) Q' a w := by
  obtain ⟨s, s9, s10, s11, s12, rfl, hW, hvk, hK, h1⟩ := hg
  have hbG : ∀ {w' : World}, Below H W w' → Gr w' oa n oc A C out := fun h => RowsAt.below hgr (by rw [hH]; exact h)
  rw [codeL2]
  refine wp_seq (sc13 h1 (fun hm a2 h2 => ?_) (fun hm a2 h2 => ?_))
  rotate_left
  · obtain ⟨vis, fin, sn, sx⟩ := s
    have hl := hW.1.len
    simp only at hl hm
    obtain rfl : sn = [] := List.length_eq_zero_iff.1 (by omega)
    obtain rfl : sx = [] := List.length_eq_zero_iff.1 (by rw [← hl]; rfl)
    exact hE a2 w vis fin _ _ _ _ hW.1 hvk hK h2
  obtain ⟨vis, fin, sn', sx'⟩ := s
  have hl := hW.1.len
  simp only at hl hm h2 hvk
  rcases List.eq_nil_or_concat sn' with rfl | ⟨sn, v, e1⟩
  · simp at hm
  rcases List.eq_nil_or_concat sx' with rfl | ⟨sx, q, e2⟩
  · rw [hl] at hm; simp at hm
  rw [List.concat_eq_append] at e1 e2
  subst e1 e2
  have hl' : sx.length = sn.length := by simpa using hl.symm
  have hsn : sn.length + 1 ≤ n := by have := hK.sn.1; simpa using this
  have hv : v < n := hW.1.lt v ((hW.1.vis v).2 (.inr (by simp)))
  have hused := hW.used_le
  have hdv : w.cell? ⟨H + 2, sn.length, Option.none⟩ = some (.int .i64 (v : Nat)) := by
    have := hK.sn.cell (i := sn.length) (by simp)
    simp only at this
    rw [this, getD_append_last]
  have hdq : w.cell? ⟨H + 3, sn.length, Option.none⟩ = some (.int .i64 (q : Nat)) := by
    have := hK.sx.cell (i := sx.length) (by simp)
    simp only at this
    rw [getD_append_last, hl'] at this
    exact this
  simp only [List.length_append, List.length_cons, List.length_nil, Nat.zero_add, hl'] at h2
  have hrow := Gr.row (hbG hK.bel) hv
  refine wp_block ?_
  rw [codeI3]
  refine wp_seq (sc14 (by omega) h2 fun a3 h3 => wp_seq (sc15 hdv h3 fun a4 h4 => wp_seq (sc16 hdq h4 fun a5 h5 => ?_)))
  refine sc17 _ _ hv hrow h5 (fun hq a6 h6 => ?_) (fun hq a6 h6 => ?_)
  · rw [codeT]
    have hlv := hlen v hv
    refine wp_seq (sc18 (by omega) (by rw [hdq]; rfl) (hK.sx.frozen _) h6 fun a7 h7 => ?_)
    have hK2 : K1 W (w.setCell ⟨H + 3, sn.length, Option.none⟩ (.int .i64 ((q + 1 : Nat) : Int))) H n ⟨vis, fin, sn ++ [v], sx ++ [q + 1]⟩ := by
      rw [← hl']; exact hK.setX rfl
    generalize w.setCell ⟨H + 3, sn.length, Option.none⟩ (.int .i64 ((q + 1 : Nat) : Int)) = w2 at hK2 h7 ⊢
    have hx : (out v).getD q 0 < n := hin v hv _ (mem_getD hq)
    refine wp_seq (sc19 hv (Gr.row (hbG hK2.bel) hv) hq (Gr.at (hbG hK2.bel) hv hq) h7 fun a8 h8 => ?_)
    generalize hxe : (out v).getD q 0 = x at hx h8
    refine sc20 _ _ hx (hK2.vis.cell hx) h8 (fun hvx a9 h9 => ?_) (fun hvx a9 h9 => ?_)
    · rw [codeT2]
      have hW2 := hW.step hq hxe hvx hx
      have hlt : sn.length + 1 < n := by
        have h0 := nodup_len n (fin ++ (sn ++ [v] ++ [x])) hW2.1.nd (fun y hy => hW2.1.lt y ((hW2.1.vis y).2 (List.mem_append.1 hy)))
        simp at h0
        omega
      refine wp_seq (sc21 hx (by rw [hK2.vis.cell hx]; rfl) (hK2.vis.frozen _) h9 fun a10 h10 => ?_)
      have hK3 := hK2.setVis x
      generalize w2.setCell ⟨H, x, Option.none⟩ (.bool true) = w3 at hK3 h10 ⊢
      have r1 := hK3.sn.run (by simpa using hlt) ((x : Nat) : Int)
      simp only [List.length_append, List.length_cons, List.length_nil, Nat.zero_add] at r1
      refine wp_seq (sc22 r1 h10 fun a11 h11 => ?_)
      have hK4 := hK3.pushN (by simpa using hlt) x rfl
      simp only [List.length_append, List.length_cons, List.length_nil, Nat.zero_add] at hK4
      generalize (w3.alloc (.cells #[.int .i64 ((x : Nat) : Int)] 3)).setCell ⟨H + 2, sn.length + 1, Option.none⟩ (.int .i64 ((x : Nat) : Int)) = w4 at hK4 h11 ⊢
      have r2 := hK4.sx.run (by simpa [hl'] using hlt) 0
      simp only [List.length_append, List.length_cons, List.length_nil, Nat.zero_add, hl'] at r2
      refine sc23 r2 h11 fun a12 h12 => ?_
      have hK5 := hK4.pushX (by simpa [hl'] using hlt) 0 (z := 0) rfl
      simp only [List.length_append, List.length_cons, List.length_nil, Nat.zero_add, hl'] at hK5
      have hu2 := hW2.used_le
      have hu : used out ⟨updB vis x true, fin, sn ++ [v] ++ [x], sx ++ [q + 1] ++ [0]⟩ = used out ⟨vis, fin, sn ++ [v], sx ++ [q]⟩ + 1 := by
        simp only [used, sumf_append, sumf, id]; omega
      refine hZ _ _ _ ?_ ⟨_, .int .i64 (sn.length : Nat), .int .i64 (v : Nat), .int .i64 (q : Nat), .int .i64 (x : Nat), rfl, hW2, fun y hy => updB_mono (hvk y hy), hK5, ?_⟩
      · rw [hu] at hu2 ⊢; omega
      · simp only [List.length_append, List.length_cons, List.length_nil, Nat.zero_add, hl']
        exact h12
    · have hvx' : vis x = true := by simpa using hvx
      have hW2 := hW.next hq (by rw [hxe]; exact hvx')
      have hu2 := hW2.used_le
      have hu : used out ⟨vis, fin, sn ++ [v], sx ++ [q + 1]⟩ = used out ⟨vis, fin, sn ++ [v], sx ++ [q]⟩ + 1 := by
        simp only [used, sumf_append, sumf, id]; omega
      refine wp_skip (hZ _ _ _ ?_ ⟨_, .int .i64 (sn.length : Nat), .int .i64 (v : Nat), .int .i64 (q : Nat), .int .i64 (x : Nat), rfl, hW2, hvk, hK2, ?_⟩)
      · rw [hu] at hu2 ⊢; omega
      · simp only [List.length_append, List.length_cons, List.length_nil, Nat.zero_add, hl']
        exact h9
  · rw [codeFF]
    obtain ⟨hW2, hqe⟩ := hW.pop hq
    have hlt : fin.length < n := by
      have h0 := nodup_len n (fin ++ (sn ++ [v])) hW.1.nd (fun y hy => hW.1.lt y ((hW.1.vis y).2 (List.mem_append.1 hy)))
      simp at h0
      omega
    refine wp_seq (sc24 hsn h6 fun a7 h7 => wp_seq (sc25 hsn h7 fun a8 h8 => ?_))
    have hK2 := hK.cut
    refine sc26 (hK2.fin.run hlt ((v : Nat) : Int)) h8 fun a9 h9 => ?_
    have hK3 := hK2.pushF hlt v rfl
    have hu2 := hW2.used_le
    have hu : used out ⟨vis, fin ++ [v], sn, sx⟩ = used out ⟨vis, fin, sn ++ [v], sx ++ [q]⟩ + 1 := by
      simp only [used, sumf_append, sumf, id]; omega
    refine hZ _ _ _ ?_ ⟨_, .int .i64 (sn.length : Nat), .int .i64 (v : Nat), .int .i64 (q : Nat), s12, rfl, hW2, hvk, hK3, ?_⟩
    · rw [hu] at hu2 ⊢; omega
    · simp only [List.length_append, List.length_cons, List.length_nil, Nat.zero_add, hl']
      exact h9

theorem scPass1 {W w : World} {H n : Nat} {oa : Option Addr} {oc : Nat} {out : Nat → List Nat} {A : Nat → Option Addr} {C : Nat → Nat} {a : Act} {Q' : Exit → Act → World → Prop} {s8 s9 s10 s11 s12 : Value} (hn : n ≤ 65536) (hgr : Gr W oa n oc A C out) (hH : W.heap.size = H) (hin : ∀ i, i < n → ∀ y, y ∈ out i → y < n) (hlen : ∀ i, i < n → (out i).length ≤ 1048576)
    (hF : Fr15 a (.slice oa n oc) (.int .i64 (n : Nat)) (.slice (some ⟨H, 0, Option.none⟩) n n) (.slice (some ⟨(H + 1), 0, Option.none⟩) 0 n) (.slice (some ⟨(H + 2), 0, Option.none⟩) 0 n) (.slice (some ⟨(H + 3), 0, Option.none⟩) 0 n) (s8) (s9) (s10) (s11) (s12))
    (hK : K1 W w H n ⟨fun _ => false, [], [], []⟩)
    (hZ : ∀ a' w' vis fin s8 s9 s10 s11 s12, Fins out n fin → K1 W w' H n ⟨vis, fin, [], []⟩ → Fr15 a' (.slice oa n oc) (.int .i64 (n : Nat)) (.slice (some ⟨H, 0, Option.none⟩) n n) (.slice (some ⟨(H + 1), 0, Option.none⟩) fin.length n) (.slice (some ⟨(H + 2), 0, Option.none⟩) 0 n) (.slice (some ⟨(H + 3), 0, Option.none⟩) 0 n) (s8) (s9) (s10) (s11) (s12) → Q' .normal a' w') :
    Code.wp Try.prog (stm Try.f15.body 6) Q' a w := by
  rw [codeS6]
  refine wp_seq (sc6 hF fun a1 h1 => ?_)
  refine wp_block (wp_loop_ghost (KO W H n oa oc out) n ⟨0, _, [], _, _, _, _, rfl, Nat.zero_le _, KInv.first out n, fun x hx => absurd hx (Nat.not_lt_zero _), hK, h1⟩ ?_)
  clear hF hK h1
  rintro g a1 w1 ⟨k, vis, fin, s9, s10, s11, s12, rfl, hk, hI, hvk, hK, h1⟩
  rw [codeL1]
  refine wp_seq (sc7 h1 (fun hkn a2 h2 => ?_) (fun hkn a2 h2 => ?_))
  rotate_left
  · obtain rfl : k = n := by omega
    exact then_hit2 (hZ _ _ _ _ _ _ _ _ _ (hI.done rfl hvk (fun v x hv hE => hin v hv x hE)) hK h2)
  have fin8 : ∀ (Q'' : Exit → Act → World → Prop) (a9 : Act) (w9 : World) (vis : Nat → Bool) (fin : List Nat) (s9 s10 s11 s12 : Value), (∀ a' w', (∃ n', n' < n - k ∧ KO W H n oa oc out n' a' w') → Q'' .normal a' w') → KInv out n ⟨vis, fin, [], []⟩ → (∀ x, x < k + 1 → vis x = true) → K1 W w9 H n ⟨vis, fin, [], []⟩ → Fr15 a9 (.slice oa n oc) (.int .i64 (n : Nat)) (.slice (some ⟨H, 0, Option.none⟩) n n) (.slice (some ⟨(H + 1), 0, Option.none⟩) fin.length n) (.slice (some ⟨(H + 2), 0, Option.none⟩) 0 n) (.slice (some ⟨(H + 3), 0, Option.none⟩) 0 n) (.int .i64 (k : Nat)) (s9) (s10) (s11) (s12) → Code.wp Try.prog (tailC (tailC (innerC (innerC (tailC (stm Try.f15.body 6)))))) Q'' a9 w9 := fun Q'' a9 w9 vis fin s9 s10 s11 s12 hq g1 g2 g3 g4 => sc8 (by omega) g4 fun a10 h10 => hq _ _ ⟨n - (k + 1), by omega, k + 1, vis, fin, _, _, _, _, rfl, hkn, g1, g2, g3, h10⟩
  refine wp_seq (wp_block ?_)
  rw [codeI1]
  refine wp_seq (sc9 _ _ hkn (hK.vis.cell hkn) h2 (fun hc a3 h3 => ?_) (fun hc a3 h3 => ?_))
  · refine wp_exit (then_hit ?_)
    refine fin8 _ _ _ _ _ _ _ _ _ (fun _ _ h => h) hI (fun x hx => ?_) hK h3
    by_cases e : x = k
    · subst e; exact hc
    · exact hvk x (by omega)
  refine wp_skip ?_
  have hvis : vis k = false := by simpa using hc
  refine wp_seq (sc10 hkn (by rw [hK.vis.cell hkn]; rfl) (hK.vis.frozen _) h3 fun a4 h4 => ?_)
  have hK2 := hK.setVis k
  generalize w1.setCell ⟨H, k, Option.none⟩ (.bool true) = w2 at hK2 h4 ⊢
  have hn0 : 0 < n := by omega
  refine wp_seq (sc11 (hK2.sn.run hn0 ((k : Nat) : Int)) h4 fun a5 h5 => ?_)
  have hK3 := hK2.pushN hn0 k rfl
  simp only [List.length_nil, List.nil_append] at hK3
  simp only [List.length_nil]
  generalize (w2.alloc (.cells #[.int .i64 ((k : Nat) : Int)] 3)).setCell ⟨H + 2, 0, Option.none⟩ (.int .i64 ((k : Nat) : Int)) = w3 at hK3 h5 ⊢
  refine wp_seq (sc12 (hK3.sx.run hn0 0) h5 fun a6 h6 => ?_)
  have hK4 := hK3.pushX hn0 0 (z := 0) rfl
  simp only [List.length_nil, List.nil_append] at hK4
  simp only [List.length_nil]
  have hW := KW.start hI hvis hkn
  refine wp_block (wp_loop_ghost (KI W H n oa oc out k) _ ⟨_, _, _, _, _, rfl, hW, fun x hx => ?_, hK4, h6⟩ ?_)
  · by_cases e : x = k
    · subst e; exact updB_same _ _ _
    · exact updB_mono (hvk x (by omega))
  clear hI hvk hK h1 h2 h3 h4 h5 h6 hK2 hK3 hK4 hW hvis hc
  intro g2 a7 w7 hg
  refine scRound hn hgr hH hin hlen hg (fun a' w' g' hl hi => ⟨g', hl, hi⟩) (fun a' w' vis fin s9 s10 s11 s12 g1 g2 g3 g4 => ?_)
  refine then_hit ?_
  exact fin8 _ _ _ _ _ _ _ _ _ (fun _ _ h => h) g1 g2 g3 g4

end Go.Proofs.Qxb6602460a
