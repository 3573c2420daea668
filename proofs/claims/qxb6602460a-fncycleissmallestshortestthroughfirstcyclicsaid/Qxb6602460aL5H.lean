import Derived.Test.Qxb6602460aL5P
import Derived.Test.Qxb6602460aL5D
namespace Go.Proofs.Qxb6602460a
open Go.RowKit Go.Maps Go.Own

theorem codeS22 : (stm Try.f5.body 22) = .seq (headC (stm Try.f5.body 22)) (.block 8 (.loop (innerC (innerC (tailC (stm Try.f5.body 22)))))) := rfl
theorem codeBL8 : (innerC (innerC (tailC (stm Try.f5.body 22)))) = .seq (headC (innerC (innerC (tailC (stm Try.f5.body 22))))) (.seq (headC (tailC (innerC (innerC (tailC (stm Try.f5.body 22)))))) (.seq (.block 9 (.seq (headC (innerC (headC (tailC (tailC (innerC (innerC (tailC (stm Try.f5.body 22))))))))) (.seq (headC (tailC (innerC (headC (tailC (tailC (innerC (innerC (tailC (stm Try.f5.body 22)))))))))) (.cond (.tmp 176) (condT (tailC (tailC (innerC (headC (tailC (tailC (innerC (innerC (tailC (stm Try.f5.body 22))))))))))) .skip)))) (tailC (tailC (tailC (innerC (innerC (tailC (stm Try.f5.body 22))))))))) := rfl

/-- Where the search of the least distance stands. -/
def LdI (W : World) (DB n s : Nat) (na oa : Option Addr) (nc oc : Nat) (s5 : Value) (out : Nat → List Nat) (A : Nat → Option Addr) (C : Nat → Nat) (dist : Nat → Int) (g : Nat) (a : Act) (w : World) : Prop :=
  ∃ (k : Nat) (z : Int) (s20 : Value), g = (out s).length - k ∧ k ≤ (out s).length ∧ w = W ∧ Mn dist ((out s).take k) z ∧ Fr5d a (.slice na n nc) (.slice oa n oc) (s5) (.int .i64 (s : Nat)) (.slice (some ⟨DB, 0, Option.none⟩) n n) (.int .i64 z) (s20) (.slice (A s) (out s).length (C s)) (.int .i64 ((out s).length : Nat)) (.int .i64 (k : Nat))

theorem ldLen {w : World} {DB n s m13 : Nat} {na oa ra : Option Addr} {nc oc rc b13 : Nat} {s5 s14 s15 s17 s126 s127 s128 : Value} {out : Nat → List Nat} {A : Nat → Option Addr} {C : Nat → Nat} {dist : Nat → Int} {a : Act} {Q' : Exit → Act → World → Prop} (Z : Code)
    (hn : n ≤ 65536) (hgr : Gr w oa n oc A C out) (hlen : ∀ i, i < n → (out i).length ≤ 1048576) (hin : ∀ i, i < n → ∀ y, y ∈ out i → y < n) (hs : s < n) (hself : ∀ v, ¬ EO out v v) (hcyc : OnCyc (EO out) s) (hD : Dist out s dist) (hd : ∀ x, -1 ≤ dist x ∧ dist x < (n : Int)) (hrow : w.rowIs DB 3 n (fun i => .int .i64 (dist i)))
    (h0 : Fr5c a (.slice na n nc) (.slice oa n oc) (s5) (.int .i64 (n : Nat)) (.int .i64 (s : Nat)) (.slice ra n rc) (.slice (some ⟨DB, 0, Option.none⟩) n n) (.slice (some ⟨b13, 0, Option.none⟩) m13 n) (s14) (s15) (s17) (s126) (s127) (s128))
    (hZ : ∀ a' (L : Nat) s20 s153 s154 s155, 2 ≤ L → L ≤ 65536 → (∃ x, x ∈ out s ∧ dist x + 1 = (L : Int)) → (∀ w, EO out s w → 0 ≤ dist w → (L : Int) ≤ dist w + 1) → Fr5d a' (.slice na n nc) (.slice oa n oc) (s5) (.int .i64 (s : Nat)) (.slice (some ⟨DB, 0, Option.none⟩) n n) (.int .i64 (L : Nat)) (s20) (s153) (s154) (s155) → Code.wp Try.prog Z Q' a' w) :
    Code.wp Try.prog (.seq (stm Try.f5.body 21) (.seq (stm Try.f5.body 22) (.seq (stm Try.f5.body 23) Z))) Q' a w := by
  refine wp_seq (ld44 h0 fun a1 s20 s153 s154 s155 h1 => wp_seq ?_)
  rw [codeS22]
  refine wp_seq (ld45 hs (Gr.row hgr hs) h1 fun a2 h2 => ?_)
  refine wp_block (wp_loop_ghost (LdI w DB n s na oa nc oc s5 out A C dist) (out s).length ⟨0, -1, _, rfl, Nat.zero_le _, rfl, .inl ⟨rfl, fun x hx => by simp at hx⟩, h2⟩ ?_)
  rintro g a3 w3 ⟨k, z, s20', rfl, hk, rfl, hM, h3⟩
  rw [codeBL8]
  refine ld46 _ h3 (fun hkl a4 h4 => ?_) (fun hkl a4 h4 => ?_)
  · have hx : (out s).getD k 0 < n := hin s hs _ (mem_getD hkl)
    have htk := take_getD hkl
    refine wp_seq (wp_block (wp_seq (ld47 hkl (Gr.at hgr hs hkl) h4 fun a5 h5 => ?_)))
    generalize (out s).getD k 0 = x at *
    obtain ⟨d1, d2⟩ := hd x
    refine ld48 _ _ hx d1 (by omega) (hrow.cell hx) h5 (fun c1 c2 a6 h6 => ?_) (fun hc a6 h6 => ?_)
    · refine ld49 hx d1 (by omega) (hrow.cell hx) h6 fun a7 h7 => ?_
      refine ld50 hkl (hlen s hs) h7 fun a8 h8 => ?_
      exact ⟨(out s).length - (k + 1), by omega, k + 1, _, _, rfl, hkl, rfl, by rw [htk]; exact hM.take c1 c2, h8⟩
    · refine wp_skip (ld50 hkl (hlen s hs) h6 fun a8 h8 => ?_)
      exact ⟨(out s).length - (k + 1), by omega, k + 1, _, _, rfl, hkl, rfl, by rw [htk]; exact hM.leave hc, h8⟩
  · obtain rfl : k = (out s).length := by omega
    rw [List.take_length] at hM
    refine then_hit ?_
    obtain ⟨y, hy, hy0⟩ := hD.next hcyc
    rcases hM with ⟨_, g2⟩ | ⟨x, g1, g2, g3, g4⟩
    · have := g2 y hy; omega
    · obtain ⟨L, hL⟩ : ∃ L : Nat, z = (L : Int) := ⟨z.toNat, by omega⟩
      rw [hL] at h4
      have hx0 : dist x ≠ 0 := fun e => by
        have := hD.zero x e
        subst this
        exact hself _ g1
      have hx2 := (hd x).2
      refine wp_seq (ld51 (by omega) h4 fun a5 h5 => ?_)
      exact hZ _ L _ _ _ _ (by omega) (by omega) ⟨x, g1, by omega⟩ (fun w hw hw0 => by have := g4 w hw hw0; omega) h5

end Go.Proofs.Qxb6602460a
