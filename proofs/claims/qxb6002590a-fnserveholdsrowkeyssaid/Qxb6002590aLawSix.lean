import Derived.Test.Qxb6002590aSixH
import Derived.Test.Qxb6002590aSixB
import Derived.Test.Qxb6002590aSixC
namespace Go.Proofs.Qxb6002590a
open Go.RowKit Go.Own

theorem In6.below {W w' : World} {a0 a1 a2 a3 a4 a5 a6 : Option Addr} {n0 n1 n2 n3 n4 n5 n6 c0 c1 c2 c3 c4 c5 c6 : Nat} {A0 A1 A2 : Nat → Option Addr} {C0 C1 C2 : Nat → Nat} {L0 L1 L2 : Nat → List Int} {B3 B4 B5 : Nat → Bool} {K : Nat → Int}
    (h : In6 W a0 a1 a2 a3 a4 a5 a6 n0 n1 n2 n3 n4 n5 n6 c0 c1 c2 c3 c4 c5 c6 A0 A1 A2 C0 C1 C2 L0 L1 L2 B3 B4 B5 K) (hb : Below W.heap.size W w') : In6 w' a0 a1 a2 a3 a4 a5 a6 n0 n1 n2 n3 n4 n5 n6 c0 c1 c2 c3 c4 c5 c6 A0 A1 A2 C0 C1 C2 L0 L1 L2 B3 B4 B5 K :=
  ⟨h.h0.below hb, h.h1.below hb, h.h2.below hb, h.h3.below hb, h.h4.below hb, h.h5.below hb, h.h6.below hb, fun i hi => ⟨(h.r0 i hi).1.below hb, (h.r0 i hi).2⟩, fun i hi => ⟨(h.r1 i hi).1.below hb, (h.r1 i hi).2⟩, fun i hi => ⟨(h.r2 i hi).1.below hb, (h.r2 i hi).2⟩⟩

def TrueBelow (w : World) (e : Ending) (w' : World) : Prop := e = .returned (.bool true) ∧ Below w.heap.size w w'

set_option maxHeartbeats 8000000 in
set_option maxRecDepth 100000 in
theorem law6 (a0 a1 a2 a3 a4 a5 a6 : Option Addr) (n0 n1 n2 n3 n4 n5 n6 c0 c1 c2 c3 c4 c5 c6 : Nat) (A0 A1 A2 : Nat → Option Addr) (C0 C1 C2 : Nat → Nat) (L0 L1 L2 : Nat → List Int) (B3 B4 B5 : Nat → Bool) (K : Nat → Int) (W : World) (hI : In6 W a0 a1 a2 a3 a4 a5 a6 n0 n1 n2 n3 n4 n5 n6 c0 c1 c2 c3 c4 c5 c6 A0 A1 A2 C0 C1 C2 L0 L1 L2 B3 B4 B5 K) :
    Calls Try.prog 6 #[.slice a0 n0 c0, .slice a1 n1 c1, .slice a2 n2 c2, .slice a3 n3 c3, .slice a4 n4 c4, .slice a5 n5 c5, .slice a6 n6 c6] W (TrueBelow W) := by
  have hQ : ∀ a' w' (s0 s1 s2 s3 s4 s5 s6 s15 s16 s19 s22 : Value), Fr6 a' s0 s1 s2 s3 s4 s5 s6 (.bool true) s15 s16 s19 s22 → Below W.heap.size W w' → bodyPost Try.prog Try.f6 (TrueBelow W) .ret a' w' := by
    intro a' w' s0 s1 s2 s3 s4 s5 s6 s15 s16 s19 s22 hF hb
    refine fr_open6 (fun a => bodyPost Try.prog Try.f6 (TrueBelow W) .ret a w') a' hF ?_
    intros
    go_ret
    exact ⟨rfl, hb⟩
  have hR : RetOk (bodyPost Try.prog Try.f6 (TrueBelow W)) W := fun a' j s0 s1 s2 s3 s4 s5 s6 s15 s16 s19 s22 hF => hQ a' _ _ _ _ _ _ _ _ _ _ _ _ hF (below_drewN' (Below.refl _ _) j)
  go_enter Try.func6, Try.ntmps6
  show Code.wp Try.prog (.seq (stm Try.f6.body 0) (.seq (stm Try.f6.body 1) (.seq (stm Try.f6.body 2) (.seq (stm Try.f6.body 3) (.seq (stm Try.f6.body 4) (.seq (stm Try.f6.body 5) (.seq (stm Try.f6.body 6) (.seq (stm Try.f6.body 7) (.seq (stm Try.f6.body 8) (.seq (stm Try.f6.body 9) (.seq (stm Try.f6.body 10) (.seq (stm Try.f6.body 11) (.seq (stm Try.f6.body 12) (.seq (stm Try.f6.body 13) (.seq (stm Try.f6.body 14) (.seq (stm Try.f6.body 15) (.seq (stm Try.f6.body 16) (.seq (stm Try.f6.body 17) (.seq (stm Try.f6.body 18) (.seq (stm Try.f6.body 19) (.seq (stm Try.f6.body 20) (rst Try.f6.body 21)))))))))))))))))))))) _ _ _
  refine six0 a0 a1 a2 a3 a4 a5 a6 n0 n1 n2 n3 n4 n5 n6 c0 c1 c2 c3 c4 c5 c6 A0 A1 A2 C0 C1 C2 L0 L1 L2 B3 B4 B5 K W _ _ _ _ _ _ _ _ hI hR ⟨rfl, rfl, rfl, rfl, rfl, rfl, rfl, rfl, rfl, rfl, rfl, rfl, rfl, rfl⟩ ?_
  intro a1' hF1
  refine six1 a0 a1 a2 a3 a4 a5 a6 n0 n1 n2 n3 n4 n5 n6 c0 c1 c2 c3 c4 c5 c6 W _ _ a1' _ _ _ _ _ hR hF1 ?_
  intro a2' hn hkn e1 e2 e3 e4 e5 hF2
  subst e1
  subst e2
  subst e3
  subst e4
  subst e5
  refine six2 a0 a1 a2 a3 a4 a5 a6 _ _ c0 c1 c2 c3 c4 c5 c6 A0 A1 A2 C0 C1 C2 L0 L1 L2 B3 B4 B5 K W _ _ a2' _ _ _ hI hn hkn hR hF2 ?_
  intro a3' j t ht0 ht1 hl s14 hF3
  refine six3 a0 a1 a2 a3 a4 a5 a6 _ _ c0 c1 c2 c3 c4 c5 c6 A0 A1 A2 C0 C1 C2 L0 L1 L2 B3 B4 B5 K W _ _ a3' t j _ _ _ hI hkn ht1 hR hF3 ?_
  intro a4' s14' hK hF4
  have hI4 := (hI.nat hK).drewN j
  have hR4 := hR.drewN j
  have hb4 : Below W.heap.size W (W.drewN j) := below_drewN' (Below.refl _ _) j
  have hκ : ∀ q, q < n6 → (fun j => (K j).toNat) q < n5 := fun q hq => by have := hK q hq; simp only; omega
  generalize (fun j => (K j).toNat) = κ at hI4 hκ
  generalize W.drewN j = w4 at hI4 hR4 hb4
  refine six5 a0 a1 a2 a3 a4 a5 a6 _ _ c0 c1 c2 c3 c4 c5 c6 A0 A1 A2 C0 C1 C2 L0 L1 L2 B3 B4 B5 κ w4 _ _ a4' _ _ _ _ hI4 hkn hκ hl hR4 hF4 ?_
  intro a5' j5 s14'' hrl hF5
  have hI5 := hI4.drewN j5
  have hR5 := hR4.drewN j5
  have hb5 : Below W.heap.size W (w4.drewN j5) := below_drewN' hb4 j5
  generalize w4.drewN j5 = w5 at hI5 hR5 hb5
  refine six6 a0 a1 a2 a3 a4 a5 a6 _ _ c0 c1 c2 c3 c4 c5 c6 A0 A1 A2 C0 C1 C2 L0 L1 L2 B3 B4 B5 κ w5 _ _ a5' _ _ _ _ hI5 hn hl hR5 hF5 ?_
  intro a6' j6 s14b hadm hF6
  have hI6 := hI5.drewN j6
  have hb6 : Below W.heap.size W (w5.drewN j6) := below_drewN' hb5 j6
  generalize w5.drewN j6 = w6 at hI6 hb6
  refine six7 a0 a1 a2 a3 a4 a5 a6 _ _ c0 c1 c2 c3 c4 c5 c6 A0 A1 A2 C0 C1 C2 L0 L1 L2 B3 B4 B5 κ w6 _ _ a6' _ _ _ _ hI6 hn hkn hl hF6 ?_
  intro a7 w7 d0 d1 d2 d3 d4 d5 d6 k0 k1 k2 k3 k4 k5 k6 D0 D1 D2 K0 K1 K2 hI7 hn0 hn1 hb7 hF7
  have hadm7 : ∀ i, i < n5 → lets6 D0 D1 L0 L1 L2 B3 B4 i = true ∧ free (L2 i) (L0 i) (D0 i).isNone = true ∧ free (L2 i) (L1 i) (D1 i).isNone = true := fun i hi => by
    have e0 : (D0 i).isNone = (A0 i).isNone := by
      have := hn0 i hi
      cases h1 : D0 i <;> cases h2 : A0 i <;> simp_all
    have e1 : (D1 i).isNone = (A1 i).isNone := by
      have := hn1 i hi
      cases h1 : D1 i <;> cases h2 : A1 i <;> simp_all
    have := hadm i hi
    unfold lets6 at this ⊢
    rw [e0, e1]
    exact this
  refine six8 d0 d1 d2 d3 d4 d5 d6 _ _ k0 k1 k2 k3 k4 k5 k6 D0 D1 D2 K0 K1 K2 L0 L1 L2 B3 B4 B5 κ w7 _ _ a7 _ _ _ _ hI7 hκ hn hkn rfl hrl hF7 ?_
  intro a8 w8 v hb8 ho hF8
  obtain ⟨va, vc, rfl, hrow, -, -⟩ := ho.form
  have hI8 := hI7.below hb8
  exact six10 d0 d1 d2 d3 d4 d5 d6 _ _ k0 k1 k2 k3 k4 k5 k6 D0 D1 D2 K0 K1 K2 L0 L1 L2 B3 B4 B5 κ W w8 _ a8 va vc _ _ _ hI8 hκ hn hkn hl hrl hadm7 (below_step (below_step hb6 hb7) hb8) hrow hF8 hQ

end Go.Proofs.Qxb6002590a
