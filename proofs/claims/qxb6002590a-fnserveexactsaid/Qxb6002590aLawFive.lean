import Derived.Test.Qxb6002590aFiveB
import Derived.Test.Qxb6002590aFiveC
import Derived.Test.Qxb6002590aFiveD
import Derived.Test.Qxb6002590aFiveE
import Derived.Test.Qxb6002590aFiveF
import Derived.Test.Qxb6002590aFiveH
import Derived.Test.Qxb6002590aFiveI
import Derived.Test.Qxb6002590aFiveJ
import Derived.Test.Qxb6002590aFiveK
namespace Go.Proofs.Qxb6002590a
open Go.RowKit Go.Own

def TrueBelow (w : World) (e : Ending) (w' : World) : Prop := e = .returned (.bool true) ∧ Below w.heap.size w w'

theorem IsEq.congr {S S' : Nat → Sp} {κ : Nat → Nat} {n kn q : Nat} (hκ : ∀ q, q < kn → κ q < n) (he : ∀ i, i < n → (S' i).point = (S i).point) (h : IsEq S κ kn q) : IsEq S' κ kn q :=
  ⟨h.1, fun j hj => by rw [he _ (hκ j (by have := h.1; omega))]; exact h.2.1 j hj, fun hq => by rw [he _ (hκ q hq)]; exact h.2.2 hq⟩

theorem pfxOf_congr {S S' : Nat → Sp} (κ : Nat → Nat) (he : ∀ i, (S' i).lo = (S i).lo) : ∀ q, pfxOf S' κ q = pfxOf S κ q
  | 0 => rfl
  | q + 1 => by simp only [pfxOf]; rw [pfxOf_congr κ he q, he]

theorem pfx_u8five {n kn : Nat} {S : Nat → Sp} {κ : Nat → Nat} (hκ : ∀ q, q < kn → κ q < n) (hu : ∀ i, i < n → U8 (S i).lo) : ∀ q, q ≤ kn → U8 (pfxOf S κ q)
  | 0, _ => fun x hx => (by cases hx)
  | q + 1, h => u8_append (pfx_u8five hκ hu q (by omega)) (hu _ (hκ q (by omega)))

theorem bytes_nil {w : World} {a : Option Addr} {c : Nat} {xs : List Int} (h : BytesAt w a c xs) (e : a = Option.none) : xs = [] := by
  have h1 := h.nil e
  have h2 := h.cap
  exact List.length_eq_zero_iff.1 (by omega)

set_option maxHeartbeats 8000000 in
set_option maxRecDepth 100000 in
theorem law5 (a0 a1 a2 a3 a4 a5 a6 : Option Addr) (n0 n1 n2 n3 n4 n5 c0 c1 c2 c3 c4 c5 c6 : Nat) (A0 A1 : Nat → Option Addr) (C0 C1 : Nat → Nat) (L0 L1 : Nat → List Int) (B2 B3 B4 : Nat → Bool) (K : Nat → Int) (kk : List Int) (W : World) (hI : In5 W a0 a1 a2 a3 a4 a5 a6 n0 n1 n2 n3 n4 n5 c0 c1 c2 c3 c4 c5 c6 A0 A1 C0 C1 L0 L1 B2 B3 B4 K kk) :
    Calls Try.prog 5 #[.slice a0 n0 c0, .slice a1 n1 c1, .slice a2 n2 c2, .slice a3 n3 c3, .slice a4 n4 c4, .slice a5 n5 c5, .slice a6 kk.length c6] W (TrueBelow W) := by
  have hQ : ∀ a' w' (s0 s1 s2 s3 s4 s5 s6 s15 s16 s19 s20 s22 s23 s24 s25 s26 s30 s35 s36 s37 s38 : Value), Fr5 a' s0 s1 s2 s3 s4 s5 s6 (.bool true) s15 s16 s19 s20 s22 s23 s24 s25 s26 s30 s35 s36 s37 s38 → Below W.heap.size W w' → bodyPost Try.prog Try.f5 (TrueBelow W) .ret a' w' := by
    intro a' w' s0 s1 s2 s3 s4 s5 s6 s15 s16 s19 s20 s22 s23 s24 s25 s26 s30 s35 s36 s37 s38 hF hb
    refine fr_open5 (fun a => bodyPost Try.prog Try.f5 (TrueBelow W) .ret a w') a' hF ?_
    intros
    go_ret
    exact ⟨rfl, hb⟩
  have hRw : ∀ w, Below W.heap.size W w → RetOk5 (bodyPost Try.prog Try.f5 (TrueBelow W)) w := fun w hb a' j s0 s1 s2 s3 s4 s5 s6 s15 s16 s19 s20 s22 s23 s24 s25 s26 s30 s35 s36 s37 s38 hF => hQ a' _ _ _ _ _ _ _ _ _ _ _ _ _ _ _ _ _ _ _ _ _ _ hF (below_drewN' hb j)
  have hR := hRw W (Below.refl _ _)
  go_enter Try.func5, Try.ntmps5
  show Code.wp Try.prog (.seq (stm Try.f5.body 0) (.seq (stm Try.f5.body 1) (.seq (stm Try.f5.body 2) (.seq (stm Try.f5.body 3) (.seq (stm Try.f5.body 4) (.seq (stm Try.f5.body 5) (.seq (stm Try.f5.body 6) (.seq (stm Try.f5.body 7) (.seq (stm Try.f5.body 8) (.seq (stm Try.f5.body 9) (.seq (stm Try.f5.body 10) (.seq (stm Try.f5.body 11) (.seq (stm Try.f5.body 12) (.seq (stm Try.f5.body 13) (.seq (stm Try.f5.body 14) (.seq (stm Try.f5.body 15) (.seq (stm Try.f5.body 16) (.seq (stm Try.f5.body 17) (.seq (stm Try.f5.body 18) (.seq (stm Try.f5.body 19) (.seq (stm Try.f5.body 20) (.seq (stm Try.f5.body 21) (.seq (stm Try.f5.body 22) (.seq (stm Try.f5.body 23) (.seq (stm Try.f5.body 24) (.seq (stm Try.f5.body 25) (.seq (stm Try.f5.body 26) (.seq (stm Try.f5.body 27) (.seq (stm Try.f5.body 28) (.seq (stm Try.f5.body 29) (.seq (stm Try.f5.body 30) (.seq (stm Try.f5.body 31) (.seq (stm Try.f5.body 32) (rst Try.f5.body 33)))))))))))))))))))))))))))))))))) _ _ _
  refine five0 a0 a1 a2 a3 a4 a5 a6 n0 n1 n2 n3 n4 n5 c0 c1 c2 c3 c4 c5 c6 A0 A1 C0 C1 L0 L1 B2 B3 B4 K kk W _ _ _ _ _ _ _ _ _ _ _ _ _ _ _ _ _ _ hI hR ⟨rfl, rfl, rfl, rfl, rfl, rfl, rfl, rfl, rfl, rfl, rfl, rfl, rfl, rfl, rfl, rfl, rfl, rfl, rfl, rfl, rfl, rfl, rfl, rfl⟩ ?_
  intro x1 hF1
  refine five1 a0 a1 a2 a3 a4 a5 a6 n0 n1 n2 n3 n4 n5 c0 c1 c2 c3 c4 c5 c6 kk W _ _ x1 _ _ _ _ _ _ _ _ _ _ _ _ _ _ _ hR hF1 ?_
  intro x2 hn hkn hkk e1 e2 e3 e4 hF2
  subst e1
  subst e2
  subst e3
  subst e4
  refine five2 a0 a1 a2 a3 a4 a5 a6 _ _ c0 c1 c2 c3 c4 c5 c6 A0 A1 C0 C1 L0 L1 B2 B3 B4 K kk W _ _ x2 _ _ _ _ _ _ _ _ _ _ _ _ _ hI hn hkn hkk hR hF2 ?_
  intro x3 j t ht0 ht1 hl s14 hF3
  refine five3 a0 a1 a2 a3 a4 a5 a6 _ _ c0 c1 c2 c3 c4 c5 c6 A0 A1 C0 C1 L0 L1 B2 B3 B4 K kk W _ _ x3 t j _ _ _ _ _ _ _ _ _ _ _ _ _ hI hkn ht1 hR hF3 ?_
  intro x4 s14' hK hF4
  have hI4 := (hI.nat hK).drewN j
  have hb4 : Below W.heap.size W (W.drewN j) := below_drewN' (Below.refl _ _) j
  have hκ : ∀ q, q < n5 → (fun j => (K j).toNat) q < n4 := fun q hq => by have := hK q hq; simp only; omega
  generalize (fun j => (K j).toNat) = κ at hI4 hκ
  generalize W.drewN j = w4 at hI4 hb4
  refine five4 a0 a1 a2 a3 a4 a5 a6 _ _ c0 c1 c2 c3 c4 c5 c6 A0 A1 C0 C1 L0 L1 B2 B3 B4 κ kk w4 _ _ x4 _ _ _ _ _ _ _ _ _ _ _ _ _ _ hI4 hkn hκ hl hF4 ?_
  intro x5 j5 q hq hF5
  have hI5 := hI4.drewN j5
  have hb5 : Below W.heap.size W (w4.drewN j5) := below_drewN' hb4 j5
  generalize w4.drewN j5 = w5 at hI5 hb5
  refine five5 a0 a1 a2 a3 a4 a5 a6 _ _ c0 c1 c2 c3 c4 c5 c6 A0 A1 C0 C1 L0 L1 B2 B3 B4 κ kk w5 _ _ x5 q (fun j => (pfxOf (fun i => ⟨A0 i, C0 i, L0 i, A1 i, C1 i, L1 i, B2 i, B3 i, B4 i⟩ : Nat → Sp) κ j).length) _ _ _ _ _ _ _ _ _ _ _ _ _ hI5 hkn hq.1 hκ hl rfl (fun j => by simp only [pfxOf, List.length_append]) (hRw _ hb5) hF5 ?_
  intro x6 s14'' hpl hF6
  refine five7 a0 a1 a2 a3 a4 a5 a6 _ _ c0 c1 c2 c3 c4 c5 c6 A0 A1 C0 C1 L0 L1 B2 B3 B4 κ kk w5 _ _ x6 _ _ _ _ _ _ _ _ _ _ _ _ _ _ hI5 hn hkn hkk hl hF6 ?_
  intro x7 w7 d0 d1 d2 d3 d4 d5 d6 k0 k1 k2 k3 k4 k5 k6 D0 D1 K0 K1 hI7 hn0 hn1 hb7 hF7
  have hpt : ∀ i, i < n4 → ((fun i => ⟨D0 i, K0 i, L0 i, D1 i, K1 i, L1 i, B2 i, B3 i, B4 i⟩ : Nat → Sp) i).point = ((fun i => ⟨A0 i, C0 i, L0 i, A1 i, C1 i, L1 i, B2 i, B3 i, B4 i⟩ : Nat → Sp) i).point := fun i hi => by
    have e0 : (D0 i).isNone = (A0 i).isNone := by
      have := hn0 i hi
      cases h1 : D0 i <;> cases h2 : A0 i <;> simp_all
    have e1 : (D1 i).isNone = (A1 i).isNone := by
      have := hn1 i hi
      cases h1 : D1 i <;> cases h2 : A1 i <;> simp_all
    simp only [Sp.point]
    rw [e0, e1]
  have hq7 : IsEq (fun i => ⟨D0 i, K0 i, L0 i, D1 i, K1 i, L1 i, B2 i, B3 i, B4 i⟩ : Nat → Sp) κ n5 q := hq.congr hκ hpt
  have hpc : pfxOf (fun i => ⟨D0 i, K0 i, L0 i, D1 i, K1 i, L1 i, B2 i, B3 i, B4 i⟩ : Nat → Sp) κ q = pfxOf (fun i => ⟨A0 i, C0 i, L0 i, A1 i, C1 i, L1 i, B2 i, B3 i, B4 i⟩ : Nat → Sp) κ q := pfxOf_congr (S := (fun i => ⟨A0 i, C0 i, L0 i, A1 i, C1 i, L1 i, B2 i, B3 i, B4 i⟩ : Nat → Sp)) (S' := (fun i => ⟨D0 i, K0 i, L0 i, D1 i, K1 i, L1 i, B2 i, B3 i, B4 i⟩ : Nat → Sp)) κ (fun _ => rfl) q
  simp only [← hpc] at hpl hF7
  have hbw7 := below_step hb5 hb7
  clear hpc hpt hq hn0 hn1 hF1 hF2 hF3 hF4 hF5 hF6 hI hI4 hI5
  refine five8 d0 d1 d2 d3 d4 d5 d6 _ _ k0 k1 k2 k3 k4 k5 k6 D0 D1 K0 K1 L0 L1 B2 B3 B4 κ kk w7 _ _ x7 q _ _ _ _ _ _ _ _ _ _ _ _ _ hI7 hn hkn hκ hl hq7 hpl hF7 ?_
  intro x8 w8 L U ok v hb8 hA rb hr8 hF8
  have hI8 := hI7.below hb8
  have hbw8 := below_step hbw7 hb8
  refine five9 d0 d1 d2 d3 d4 d5 d6 _ _ k0 k1 k2 k3 k4 k5 k6 kk w8 _ _ x8 q _ _ _ _ _ _ _ _ _ _ _ _ _ hkn hq7.1 hF8 ?_
  intro x9 m hm hF9
  refine five10 d0 d1 d2 d3 d4 d5 d6 _ _ k0 k1 k2 k3 k4 k5 k6 D0 D1 K0 K1 L0 L1 B2 B3 B4 κ kk w8 _ _ x9 m _ _ _ _ _ _ _ _ _ _ _ _ _ hI8 hn hkn (by omega) hF9 ?_
  intro x10 hF10
  unfold Answer at hA
  rw [← hm] at hA
  rcases hA with ⟨hne, rfl, rfl, rfl, ho⟩ | ⟨hun, rfl, hS⟩
  · obtain ⟨va, vc, rfl, -, -, hv⟩ := ho.isNil
    have hul : ∀ n, (unOf (fun i => ⟨D0 i, K0 i, L0 i, D1 i, K1 i, L1 i, B2 i, B3 i, B4 i⟩ : Nat → Sp) κ n5 m n).length ≤ n := by
      intro n
      unfold unOf
      refine Nat.le_trans (List.length_filter_le _ _) ?_
      simp
    exact five11 d0 d1 d2 d3 d4 d5 d6 _ _ k0 k1 k2 k3 k4 k5 k6 D0 D1 K0 K1 L0 L1 B2 B3 B4 κ kk w8 _ _ x10 m rb va vc _ _ _ _ _ _ _ _ _ _ hI8 hn hkn (by omega) rfl (List.length_pos_iff.2 hne) (Nat.le_trans (hul _) hn) hv hr8 hF10 (hRw _ hbw8)
  · rw [hun] at hF10
    refine five11z d0 d1 d2 d3 d4 d5 d6 _ _ k0 k1 k2 k3 k4 k5 k6 kk w8 _ _ x10 _ _ _ _ _ _ _ _ _ _ _ _ hF10 ?_
    intro x11 hF11
    refine five13 d0 d1 d2 d3 d4 d5 d6 _ _ k0 k1 k2 k3 k4 k5 k6 D0 D1 K0 K1 L0 L1 B2 B3 B4 κ kk w8 _ _ x11 q _ _ _ _ _ _ _ _ _ _ _ _ hI8 hn hkn hq7.1 hκ hpl hF11 ?_
    intro x12 w12 pa pc hb12 hp12 hF12
    have hI12 := hI8.below hb12
    refine five14 d0 d1 d2 d3 d4 d5 d6 _ _ k0 k1 k2 k3 k4 k5 k6 D0 D1 K0 K1 L0 L1 B2 B3 B4 κ kk w12 _ _ x12 q _ _ _ _ _ _ _ _ _ _ _ _ _ hI12 hn hkn hq7.1 hκ hF12 ?_
    intro x13 s g1 g2 g3 g4 g5 g6 g7 g8 hF13
    have hpu := pfx_u8five (S := (fun i => ⟨D0 i, K0 i, L0 i, D1 i, K1 i, L1 i, B2 i, B3 i, B4 i⟩ : Nat → Sp)) hκ (fun i hi => (hI7.r0 i hi).2) q hq7.1
    have hok : (nextOf (fun i => ⟨D0 i, K0 i, L0 i, D1 i, K1 i, L1 i, B2 i, B3 i, B4 i⟩ : Nat → Sp) κ n5 q).ok w12 ∧ ((nextOf (fun i => ⟨D0 i, K0 i, L0 i, D1 i, K1 i, L1 i, B2 i, B3 i, B4 i⟩ : Nat → Sp) κ n5 q).la = Option.none → (nextOf (fun i => ⟨D0 i, K0 i, L0 i, D1 i, K1 i, L1 i, B2 i, B3 i, B4 i⟩ : Nat → Sp) κ n5 q).lo = []) ∧ ((nextOf (fun i => ⟨D0 i, K0 i, L0 i, D1 i, K1 i, L1 i, B2 i, B3 i, B4 i⟩ : Nat → Sp) κ n5 q).ha = Option.none → (nextOf (fun i => ⟨D0 i, K0 i, L0 i, D1 i, K1 i, L1 i, B2 i, B3 i, B4 i⟩ : Nat → Sp) κ n5 q).hi = []) ∧ (nextOf (fun i => ⟨D0 i, K0 i, L0 i, D1 i, K1 i, L1 i, B2 i, B3 i, B4 i⟩ : Nat → Sp) κ n5 q).lo.length ≤ 1048576 ∧ (nextOf (fun i => ⟨D0 i, K0 i, L0 i, D1 i, K1 i, L1 i, B2 i, B3 i, B4 i⟩ : Nat → Sp) κ n5 q).hi.length ≤ 1048576 := by
      unfold nextOf
      split
      · rename_i h
        have hκq := hκ q h
        exact ⟨⟨(hI12.r0 _ hκq).1, (hI12.r1 _ hκq).1, (hI12.r0 _ hκq).2, (hI12.r1 _ hκq).2⟩, fun e => bytes_nil (hI12.r0 _ hκq).1 e, fun e => bytes_nil (hI12.r1 _ hκq).1 e, (hl _ hκq).1, (hl _ hκq).2⟩
      · exact ⟨zeroSp_ok _, fun _ => rfl, fun _ => rfl, by simp [zeroSp], by simp [zeroSp]⟩
    have hS12 : Served (pfxOf (fun i => ⟨D0 i, K0 i, L0 i, D1 i, K1 i, L1 i, B2 i, B3 i, B4 i⟩ : Nat → Sp) κ q).isEmpty (pfxOf (fun i => ⟨D0 i, K0 i, L0 i, D1 i, K1 i, L1 i, B2 i, B3 i, B4 i⟩ : Nat → Sp) κ q) (nextOf (fun i => ⟨D0 i, K0 i, L0 i, D1 i, K1 i, L1 i, B2 i, B3 i, B4 i⟩ : Nat → Sp) κ n5 q) w7.heap.size w12 L U ok := by
      rcases hS with h | ⟨low, h1, h2, h3, h4⟩
      · exact .inl h
      · exact .inr ⟨low, h1, h2, h3.below hb12, h4.below hb12⟩
    generalize nextOf (fun i => ⟨D0 i, K0 i, L0 i, D1 i, K1 i, L1 i, B2 i, B3 i, B4 i⟩ : Nat → Sp) κ n5 q = s' at g1 g2 g3 g4 g5 g6 g7 g8 hok hS12
    obtain ⟨hok1, hok2, hok3, hok4, hok5⟩ := hok
    have hs : s.ok w12 := by
      refine ⟨?_, ?_, ?_, ?_⟩
      · rw [g1, g2, g3]; exact hok1.1
      · rw [g4, g5, g6]; exact hok1.2.1
      · rw [g2]; exact hok1.2.2.1
      · rw [g5]; exact hok1.2.2.2
    have elow : lowOf (pfxOf (fun i => ⟨D0 i, K0 i, L0 i, D1 i, K1 i, L1 i, B2 i, B3 i, B4 i⟩ : Nat → Sp) κ q).isEmpty (pfxOf (fun i => ⟨D0 i, K0 i, L0 i, D1 i, K1 i, L1 i, B2 i, B3 i, B4 i⟩ : Nat → Sp) κ q) s = lowOf (pfxOf (fun i => ⟨D0 i, K0 i, L0 i, D1 i, K1 i, L1 i, B2 i, B3 i, B4 i⟩ : Nat → Sp) κ q).isEmpty (pfxOf (fun i => ⟨D0 i, K0 i, L0 i, D1 i, K1 i, L1 i, B2 i, B3 i, B4 i⟩ : Nat → Sp) κ q) s' := by unfold lowOf; rw [g1, g2, g7]
    have eup : upOf (pfxOf (fun i => ⟨D0 i, K0 i, L0 i, D1 i, K1 i, L1 i, B2 i, B3 i, B4 i⟩ : Nat → Sp) κ q).isEmpty (pfxOf (fun i => ⟨D0 i, K0 i, L0 i, D1 i, K1 i, L1 i, B2 i, B3 i, B4 i⟩ : Nat → Sp) κ q) s = upOf (pfxOf (fun i => ⟨D0 i, K0 i, L0 i, D1 i, K1 i, L1 i, B2 i, B3 i, B4 i⟩ : Nat → Sp) κ q).isEmpty (pfxOf (fun i => ⟨D0 i, K0 i, L0 i, D1 i, K1 i, L1 i, B2 i, B3 i, B4 i⟩ : Nat → Sp) κ q) s' := by unfold upOf; rw [g4, g5, g8]
    have hS13 : Served (pfxOf (fun i => ⟨D0 i, K0 i, L0 i, D1 i, K1 i, L1 i, B2 i, B3 i, B4 i⟩ : Nat → Sp) κ q).isEmpty (pfxOf (fun i => ⟨D0 i, K0 i, L0 i, D1 i, K1 i, L1 i, B2 i, B3 i, B4 i⟩ : Nat → Sp) κ q) s w7.heap.size w12 L U ok := by
      unfold Served
      rw [elow, eup]
      exact hS12
    refine five15 d0 d1 d2 d3 d4 d5 d6 _ _ k0 k1 k2 k3 k4 k5 k6 kk w12 _ x13 rb w7.heap.size s ok pa pc _ L U _ _ _ _ _ _ (hr8.below hb12) hs (by rw [g1, g2]; exact hok2) (by rw [g4, g5]; exact hok3) hp12 hpu hI12.h6 hI12.u6 hkk hpl (by rw [g2]; exact hok4) (by rw [g5]; exact hok5) hS13 hF13 ?_
    intro x14 w14 s0 s1 s2 s3 s4 s5 s6 s15 s16 s19 s20 s22 s23 s24 s25 s26 s30 s35 s36 s37 s38 hF14 hb14
    exact hQ _ _ _ _ _ _ _ _ _ _ _ _ _ _ _ _ _ _ _ _ _ _ _ hF14 (below_step (below_step hbw8 hb12) hb14)

end Go.Proofs.Qxb6002590a
