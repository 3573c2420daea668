import Derived.Test.Qxb6002590aBytes
namespace Go.Proofs.Qxb6002590a
open Go.RowKit Go.Own

set_option maxHeartbeats 4000000 in
theorem admits12 (a b b' : Option Addr) (c d d' : Nat) (v lo hi : List Int) (le he : Bool) (w : World) (hx : v.length ≤ 4194304) (hy : lo.length ≤ 4194304) (hz : hi.length ≤ 4194304) (h : BytesAt w a c v) (h' : BytesAt w b d lo) (h'' : BytesAt w b' d' hi) :
    Calls Try.prog 12 #[.slice a v.length c, .slice b lo.length d, .slice b' hi.length d', .bool le, .bool he] w (Drawn (.bool (above v lo b.isNone le && under v hi b'.isNone he)) w) := by
  have hnl := nnil22
  have h1 := cmp26 a b c d v lo w hx hy h h'
  have h2 := cmp26 a b' c d' v hi w hx hz h h''
  have h3 := fun j => cmp26 a b' c d' v hi (w.drewN j) hx hz (h.drewN j) (h''.drewN j)
  obtain ⟨C, hC0⟩ : ∃ C, cmp v lo = C := ⟨_, rfl⟩
  obtain ⟨D, hD0⟩ : ∃ D, cmp v hi = D := ⟨_, rfl⟩
  rw [hC0] at h1
  rw [hD0] at h2
  simp only [hD0] at h3
  clear h h' h''
  cases b with
  | none =>
    cases b' with
    | none =>
      have e : (above v lo (Option.none : Option Addr).isNone le && under v hi (Option.none : Option Addr).isNone he) = true := by simp [above, under]
      rw [e]
      clear e hC0 hD0
      go_enter Try.func12, Try.ntmps12
      go_wp2_with fail
      go_ret
      exact ⟨rfl, by first | exact ⟨0, rfl⟩ | exact ⟨_, rfl⟩ | exact drawn_more _ ⟨_, rfl⟩⟩
    | some ad' =>
      rcases Int.lt_trichotomy D 0 with hD | hD | hD
      · have d1 : decide (0 < D) = false := decide_eq_false (by omega)
        have d2 : (D == 0) = false := by simp; omega
        have d3 : ¬ (0 < D) := by omega
        have d4 : ¬ (D = 0) := by omega
        have e : (above v lo (Option.none : Option Addr).isNone le && under v hi (some ad' : Option Addr).isNone he) = true := by simp [above, under, hD0, d3, d4]
        rw [e]
        clear e hC0 hD0
        go_enter Try.func12, Try.ntmps12
        go_wp2_with fail
        refine h2.mono ?_
        rintro e w1 ⟨rfl, j0, rfl⟩
        go_wp2_with fail
        go_ret
        exact ⟨rfl, by first | exact ⟨0, rfl⟩ | exact ⟨_, rfl⟩ | exact drawn_more _ ⟨_, rfl⟩⟩
      · subst hD
        cases he
        · skip
          have e : (above v lo (Option.none : Option Addr).isNone le && under v hi (some ad' : Option Addr).isNone false) = true := by simp [above, under, hD0]
          rw [e]
          clear e hC0 hD0
          go_enter Try.func12, Try.ntmps12
          go_wp2_with fail
          refine h2.mono ?_
          rintro e w1 ⟨rfl, j0, rfl⟩
          go_wp2_with fail
          go_ret
          exact ⟨rfl, by first | exact ⟨0, rfl⟩ | exact ⟨_, rfl⟩ | exact drawn_more _ ⟨_, rfl⟩⟩
        · skip
          have e : (above v lo (Option.none : Option Addr).isNone le && under v hi (some ad' : Option Addr).isNone true) = false := by simp [above, under, hD0]
          rw [e]
          clear e hC0 hD0
          go_enter Try.func12, Try.ntmps12
          go_wp2_with fail
          refine h2.mono ?_
          rintro e w1 ⟨rfl, j0, rfl⟩
          go_wp2_with fail
          go_ret
          exact ⟨rfl, by first | exact ⟨0, rfl⟩ | exact ⟨_, rfl⟩ | exact drawn_more _ ⟨_, rfl⟩⟩
      · have d1 : decide (0 < D) = true := decide_eq_true hD
        have e : (above v lo (Option.none : Option Addr).isNone le && under v hi (some ad' : Option Addr).isNone he) = false := by simp [above, under, hD0, hD]
        rw [e]
        clear e hC0 hD0
        go_enter Try.func12, Try.ntmps12
        go_wp2_with fail
        refine h2.mono ?_
        rintro e w1 ⟨rfl, j0, rfl⟩
        go_wp2_with fail
        go_ret
        exact ⟨rfl, by first | exact ⟨0, rfl⟩ | exact ⟨_, rfl⟩ | exact drawn_more _ ⟨_, rfl⟩⟩
  | some ad =>
    rcases Int.lt_trichotomy C 0 with hC | hC | hC
    · have c1 : decide (C < 0) = true := decide_eq_true hC
      have e : (above v lo (some ad : Option Addr).isNone le && under v hi b'.isNone he) = false := by simp [above, under, hC0, hC]
      rw [e]
      clear e hC0 hD0
      go_enter Try.func12, Try.ntmps12
      go_wp2_with fail
      refine h1.mono ?_
      rintro e w1 ⟨rfl, j0, rfl⟩
      go_wp2_with fail
      go_ret
      exact ⟨rfl, by first | exact ⟨0, rfl⟩ | exact ⟨_, rfl⟩ | exact drawn_more _ ⟨_, rfl⟩⟩
    · subst hC
      cases le
      · skip
        cases b' with
        | none =>
          have e : (above v lo (some ad : Option Addr).isNone false && under v hi (Option.none : Option Addr).isNone he) = true := by simp [above, under, hC0]
          rw [e]
          clear e hC0 hD0
          go_enter Try.func12, Try.ntmps12
          go_wp2_with fail
          refine h1.mono ?_
          rintro e w1 ⟨rfl, j0, rfl⟩
          go_wp2_with fail
          go_ret
          exact ⟨rfl, by first | exact ⟨0, rfl⟩ | exact ⟨_, rfl⟩ | exact drawn_more _ ⟨_, rfl⟩⟩
        | some ad' =>
          rcases Int.lt_trichotomy D 0 with hD | hD | hD
          · have d1 : decide (0 < D) = false := decide_eq_false (by omega)
            have d2 : (D == 0) = false := by simp; omega
            have d3 : ¬ (0 < D) := by omega
            have d4 : ¬ (D = 0) := by omega
            have e : (above v lo (some ad : Option Addr).isNone false && under v hi (some ad' : Option Addr).isNone he) = true := by simp [above, under, hC0, hD0, d3, d4]
            rw [e]
            clear e hC0 hD0
            go_enter Try.func12, Try.ntmps12
            go_wp2_with fail
            refine h1.mono ?_
            rintro e w1 ⟨rfl, j0, rfl⟩
            go_wp2_with fail
            refine (h3 _).mono ?_
            rintro e w2 ⟨rfl, j1, rfl⟩
            go_wp2_with fail
            go_ret
            exact ⟨rfl, by first | exact ⟨0, rfl⟩ | exact ⟨_, rfl⟩ | exact drawn_more _ ⟨_, rfl⟩⟩
          · subst hD
            cases he
            · skip
              have e : (above v lo (some ad : Option Addr).isNone false && under v hi (some ad' : Option Addr).isNone false) = true := by simp [above, under, hC0, hD0]
              rw [e]
              clear e hC0 hD0
              go_enter Try.func12, Try.ntmps12
              go_wp2_with fail
              refine h1.mono ?_
              rintro e w1 ⟨rfl, j0, rfl⟩
              go_wp2_with fail
              refine (h3 _).mono ?_
              rintro e w2 ⟨rfl, j1, rfl⟩
              go_wp2_with fail
              go_ret
              exact ⟨rfl, by first | exact ⟨0, rfl⟩ | exact ⟨_, rfl⟩ | exact drawn_more _ ⟨_, rfl⟩⟩
            · skip
              have e : (above v lo (some ad : Option Addr).isNone false && under v hi (some ad' : Option Addr).isNone true) = false := by simp [above, under, hC0, hD0]
              rw [e]
              clear e hC0 hD0
              go_enter Try.func12, Try.ntmps12
              go_wp2_with fail
              refine h1.mono ?_
              rintro e w1 ⟨rfl, j0, rfl⟩
              go_wp2_with fail
              refine (h3 _).mono ?_
              rintro e w2 ⟨rfl, j1, rfl⟩
              go_wp2_with fail
              go_ret
              exact ⟨rfl, by first | exact ⟨0, rfl⟩ | exact ⟨_, rfl⟩ | exact drawn_more _ ⟨_, rfl⟩⟩
          · have d1 : decide (0 < D) = true := decide_eq_true hD
            have e : (above v lo (some ad : Option Addr).isNone false && under v hi (some ad' : Option Addr).isNone he) = false := by simp [above, under, hC0, hD0, hD]
            rw [e]
            clear e hC0 hD0
            go_enter Try.func12, Try.ntmps12
            go_wp2_with fail
            refine h1.mono ?_
            rintro e w1 ⟨rfl, j0, rfl⟩
            go_wp2_with fail
            refine (h3 _).mono ?_
            rintro e w2 ⟨rfl, j1, rfl⟩
            go_wp2_with fail
            go_ret
            exact ⟨rfl, by first | exact ⟨0, rfl⟩ | exact ⟨_, rfl⟩ | exact drawn_more _ ⟨_, rfl⟩⟩
      · skip
        have e : (above v lo (some ad : Option Addr).isNone true && under v hi b'.isNone he) = false := by simp [above, under, hC0]
        rw [e]
        clear e hC0 hD0
        go_enter Try.func12, Try.ntmps12
        go_wp2_with fail
        refine h1.mono ?_
        rintro e w1 ⟨rfl, j0, rfl⟩
        go_wp2_with fail
        go_ret
        exact ⟨rfl, by first | exact ⟨0, rfl⟩ | exact ⟨_, rfl⟩ | exact drawn_more _ ⟨_, rfl⟩⟩
    · have c1 : decide (C < 0) = false := decide_eq_false (by omega)
      have c2 : (C == 0) = false := by simp; omega
      have c3 : ¬ (C < 0) := by omega
      have c4 : ¬ (C = 0) := by omega
      cases b' with
      | none =>
        have e : (above v lo (some ad : Option Addr).isNone le && under v hi (Option.none : Option Addr).isNone he) = true := by simp [above, under, hC0, c3, c4]
        rw [e]
        clear e hC0 hD0
        go_enter Try.func12, Try.ntmps12
        go_wp2_with fail
        refine h1.mono ?_
        rintro e w1 ⟨rfl, j0, rfl⟩
        go_wp2_with fail
        go_ret
        exact ⟨rfl, by first | exact ⟨0, rfl⟩ | exact ⟨_, rfl⟩ | exact drawn_more _ ⟨_, rfl⟩⟩
      | some ad' =>
        rcases Int.lt_trichotomy D 0 with hD | hD | hD
        · have d1 : decide (0 < D) = false := decide_eq_false (by omega)
          have d2 : (D == 0) = false := by simp; omega
          have d3 : ¬ (0 < D) := by omega
          have d4 : ¬ (D = 0) := by omega
          have e : (above v lo (some ad : Option Addr).isNone le && under v hi (some ad' : Option Addr).isNone he) = true := by simp [above, under, hC0, c3, c4, hD0, d3, d4]
          rw [e]
          clear e hC0 hD0
          go_enter Try.func12, Try.ntmps12
          go_wp2_with fail
          refine h1.mono ?_
          rintro e w1 ⟨rfl, j0, rfl⟩
          go_wp2_with fail
          refine (h3 _).mono ?_
          rintro e w2 ⟨rfl, j1, rfl⟩
          go_wp2_with fail
          go_ret
          exact ⟨rfl, by first | exact ⟨0, rfl⟩ | exact ⟨_, rfl⟩ | exact drawn_more _ ⟨_, rfl⟩⟩
        · subst hD
          cases he
          · skip
            have e : (above v lo (some ad : Option Addr).isNone le && under v hi (some ad' : Option Addr).isNone false) = true := by simp [above, under, hC0, c3, c4, hD0]
            rw [e]
            clear e hC0 hD0
            go_enter Try.func12, Try.ntmps12
            go_wp2_with fail
            refine h1.mono ?_
            rintro e w1 ⟨rfl, j0, rfl⟩
            go_wp2_with fail
            refine (h3 _).mono ?_
            rintro e w2 ⟨rfl, j1, rfl⟩
            go_wp2_with fail
            go_ret
            exact ⟨rfl, by first | exact ⟨0, rfl⟩ | exact ⟨_, rfl⟩ | exact drawn_more _ ⟨_, rfl⟩⟩
          · skip
            have e : (above v lo (some ad : Option Addr).isNone le && under v hi (some ad' : Option Addr).isNone true) = false := by simp [above, under, hC0, c3, hD0]
            rw [e]
            clear e hC0 hD0
            go_enter Try.func12, Try.ntmps12
            go_wp2_with fail
            refine h1.mono ?_
            rintro e w1 ⟨rfl, j0, rfl⟩
            go_wp2_with fail
            refine (h3 _).mono ?_
            rintro e w2 ⟨rfl, j1, rfl⟩
            go_wp2_with fail
            go_ret
            exact ⟨rfl, by first | exact ⟨0, rfl⟩ | exact ⟨_, rfl⟩ | exact drawn_more _ ⟨_, rfl⟩⟩
        · have d1 : decide (0 < D) = true := decide_eq_true hD
          have e : (above v lo (some ad : Option Addr).isNone le && under v hi (some ad' : Option Addr).isNone he) = false := by simp [above, under, hC0, c3, hD0, hD]
          rw [e]
          clear e hC0 hD0
          go_enter Try.func12, Try.ntmps12
          go_wp2_with fail
          refine h1.mono ?_
          rintro e w1 ⟨rfl, j0, rfl⟩
          go_wp2_with fail
          refine (h3 _).mono ?_
          rintro e w2 ⟨rfl, j1, rfl⟩
          go_wp2_with fail
          go_ret
          exact ⟨rfl, by first | exact ⟨0, rfl⟩ | exact ⟨_, rfl⟩ | exact drawn_more _ ⟨_, rfl⟩⟩
end Go.Proofs.Qxb6002590a
