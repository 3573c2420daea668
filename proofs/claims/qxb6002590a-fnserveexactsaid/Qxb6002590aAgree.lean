import Derived.Test.Qxb6002590aAgreeD
namespace Go.Proofs.Qxb6002590a
open Go.RowKit Go.Own

theorem aft_len : ∀ {p r : List Int}, aft p = some r → r.length ≤ p.length
  | [], r, h => by simp [aft] at h
  | x :: xs, r, h => by
    simp only [aft] at h
    split at h
    · rename_i r' hr
      cases h
      have := aft_len hr
      simp; omega
    · split at h
      · cases h
      · cases h; simp

theorem low_len {b : Bool} {p : List Int} {s : Sp} {low : Option (List Int)} (h : lowOf b p s = some low) : upLen low ≤ p.length + s.lo.length := by
  unfold lowOf at h
  split at h
  · cases hA : aft (p ++ s.lo) with
    | none => rw [hA] at h; cases h
    | some r =>
      rw [hA] at h
      cases h
      have := aft_len hA
      simpa [upLen] using this
  · split at h
    · cases h; simp [upLen]
    · cases h; simp [upLen]

theorem up_len (b : Bool) (p : List Int) (s : Sp) : upLen (upOf b p s) ≤ p.length + s.hi.length := by
  unfold upOf
  split
  · simp [upLen]
  · split
    · cases hA : aft (p ++ s.hi) with
      | none => simp [upLen]
      | some r =>
        have := aft_len hA
        simpa [upLen] using this
    · simp [upLen]

set_option maxHeartbeats 8000000 in
set_option maxRecDepth 100000 in
theorem agree10 (s : Sp) (ok po : Bool) (pa ka : Option Addr) (pc kc : Nat) (pfx k : List Int) (L U : Option Addr) (m : Nat) (w : World) (hs : s.ok w) (hn1 : s.la = Option.none → s.lo = []) (hn2 : s.ha = Option.none → s.hi = []) (hp : BytesAt w pa pc pfx) (hpU : U8 pfx) (hk : BytesAt w ka kc k) (hkU : U8 k) (hpo : po = pfx.isEmpty)
    (l0 : k.length ≤ 1048576) (l1 : pfx.length ≤ 1048576) (l2 : s.lo.length ≤ 1048576) (l3 : s.hi.length ≤ 1048576) (hS : Served po pfx s m w L U ok) :
    Calls Try.prog 10 #[.agg #[.pointer L, .pointer U, .bool false, .int .i64 0], .bool ok, .slice pa pfx.length pc, .bool po, .slice s.la s.lo.length s.lc, .slice s.ha s.hi.length s.hc, .bool s.le, .bool s.he, .slice ka k.length kc] w (Gives (.bool true) w) := by
  subst hpo
  have hQ : ∀ a' w' (s0 s1 s2 s3 s4 s5 s6 s7 s8 s9 s19 s20 s21 s22 s23 : Value), Fr10 a' s0 s1 s2 s3 s4 s5 s6 s7 s8 s9 (.bool true) s19 s20 s21 s22 s23 → Below w.heap.size w w' → bodyPost Try.prog Try.f10 (Gives (.bool true) w) .ret a' w' := by
    intro a' w' s0 s1 s2 s3 s4 s5 s6 s7 s8 s9 s19 s20 s21 s22 s23 hF hb
    refine fr_open10 (fun a => bodyPost Try.prog Try.f10 (Gives (.bool true) w) .ret a w') a' hF ?_
    intros
    go_ret
    exact ⟨rfl, hb⟩
  go_enter Try.func10, Try.ntmps10
  show Code.wp Try.prog (.seq (stm Try.f10.body 0) (.seq (stm Try.f10.body 1) (.seq (stm Try.f10.body 2) (.seq (stm Try.f10.body 3) (.seq (stm Try.f10.body 4) (.seq (stm Try.f10.body 5) (.seq (stm Try.f10.body 6) (.seq (stm Try.f10.body 7) (.seq (stm Try.f10.body 8) (.seq (stm Try.f10.body 9) (.seq (stm Try.f10.body 10) (.seq (stm Try.f10.body 11) (.seq (stm Try.f10.body 12) (.seq (stm Try.f10.body 13) (.seq (stm Try.f10.body 14) (rst Try.f10.body 15)))))))))))))))) _ _ _
  refine agree0 s ok _ pa ka pc kc pfx k L U w _ _ _ _ _ _ _ _ _ _ hs hp (by omega) (by omega) (by omega) ⟨rfl, rfl, rfl, rfl, rfl, rfl, rfl, rfl, rfl, rfl, rfl, rfl, rfl, rfl, rfl, rfl, rfl, rfl⟩ ?_
  intro a1 w1 pla pha plc phc P1 P2 e1 e2 hb1 hr1 hpl hph hF1
  have hlen1 : P1.length ≤ 2097152 := by rw [e1]; simp; omega
  have hlen2 : P2.length ≤ 2097152 := by rw [e2]; simp; omega
  rcases hS with ⟨hlow, rfl, rfl, rfl⟩ | ⟨low, hlow, rfl, hL, hU⟩
  · have hx : ex1 s = true ∧ aft P1 = Option.none := by
      rw [e1]
      unfold lowOf at hlow
      unfold ex1
      split at hlow
      · rename_i h
        refine ⟨h, ?_⟩
        cases hA : aft (pfx ++ s.lo) with
        | none => rfl
        | some r => rw [hA] at hlow; cases hlow
      · split at hlow <;> cases hlow
    refine agree3 s false _ pa ka pc kc _ pfx k _ _ pla pha plc phc P1 P2 w1 _ _ a1 _ _ _ hr1 hpl (by omega) (by rw [hx.1, hx.2]; rfl) hF1 ?_
    intro a2 s21 hF2
    refine agree6f s _ pa ka pc kc _ pfx k _ _ pla pha plc phc P1 P2 w1 _ _ a2 _ _ _ hr1 hF2 ?_
    intro a3 hF3
    exact hQ _ _ _ _ _ _ _ _ _ _ _ _ _ _ _ _ _ hF3 hb1
  · have hok : true = !(ex1 s && (aft P1).isNone) := by
      cases hE : ex1 s
      · rfl
      · unfold lowOf at hlow
        unfold ex1 at hE
        rw [if_pos hE] at hlow
        rw [e1]
        cases hA : aft (pfx ++ s.lo) with
        | none => rw [hA] at hlow; cases hlow
        | some r => rfl
    refine agree3 s true _ pa ka pc kc _ pfx k _ _ pla pha plc phc P1 P2 w1 _ _ a1 _ _ _ hr1 hpl (by omega) hok hF1 ?_
    intro a2 s21 hF2
    have hln : low.isNone = (s.la.isNone && pfx.isEmpty) := by
      cases hE : ex1 s
      · rw [lowOf_plain hE] at hlow
        cases hlow
        cases (s.la.isNone && pfx.isEmpty) <;> rfl
      · unfold lowOf at hlow
        unfold ex1 at hE
        rw [if_pos hE] at hlow
        simp only [Bool.and_eq_true, Bool.not_eq_true'] at hE
        rw [hE.1]
        cases hA : aft (pfx ++ s.lo) with
        | none => rw [hA] at hlow; cases hlow
        | some r => rw [hA] at hlow; cases hlow; rfl
    refine agree7 s _ pa ka pc kc _ pfx k _ _ pla pha plc phc P1 P2 m low w1 _ _ a2 _ _ _ hr1 (hL.below hb1) hln hF2 ?_
    intro a3 hF3
    have hun : (upOf pfx.isEmpty pfx s).isNone = (!ex2 s && (aft P2).isNone) := by
      rw [upOf_plain hn2, e2]
      cases ex2 s <;> rfl
    refine agree9 s true _ pa ka pc kc _ pfx k _ _ pla pha plc phc P1 P2 m _ w1 _ _ a3 _ _ _ hr1 (hU.below hb1) hun hph (by omega) hF3 ?_
    intro a4 j4 hF4
    refine agree12 s true _ pa ka pc kc _ pfx k _ _ pla pha plc phc P1 P2 (w1.drewN j4) _ _ a4 _ _ _ ((hk.below hb1).drewN j4) (hpl.drewN j4) (by omega) (by omega) hF4 ?_
    rintro a5 w5 hF5 ⟨j5, rfl⟩
    refine agree14 s true _ pa ka pc kc _ pfx k _ _ pla pha plc phc P1 P2 ((w1.drewN j4).drewN j5) _ _ a5 _ _ _ (((hk.below hb1).drewN j4).drewN j5) ((hph.drewN j4).drewN j5) (by omega) (by omega) hF5 ?_
    rintro a6 w6 hF6 ⟨j6, rfl⟩
    have hb6 : Below w1.heap.size w1 (((w1.drewN j4).drewN j5).drewN j6) := below_drewN' (below_drewN' (below_drewN' (Below.refl _ _) j4) j5) j6
    have ll := low_len hlow
    have lu := up_len pfx.isEmpty pfx s
    have g22 := low_agrees hn1 hlow hpU hs.2.2.1 hkU
    have g23 := up_agrees (k := k) hn2 hpU hs.2.2.2 hkU
    unfold inLow at g22
    unfold inHigh at g23
    rw [← e1] at g22
    rw [← e2] at g23
    refine agree15 s true _ pa ka pc kc _ pfx k _ _ pla pha plc phc P1 P2 m low _ _ _ _ _ a6 _ (hr1.below hb6) ((hL.below hb1).below hb6) ((hU.below hb1).below hb6) ((hk.below hb1).below hb6) (by omega) (by omega) (by omega) g22 g23 hF6 ?_
    intro a7 w7 hF7 hb7
    exact hQ _ _ _ _ _ _ _ _ _ _ _ _ _ _ _ _ _ hF7 (below_step (below_step hb1 hb6) hb7)

end Go.Proofs.Qxb6002590a
