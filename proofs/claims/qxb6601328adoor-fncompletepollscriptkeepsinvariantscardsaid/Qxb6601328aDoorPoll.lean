import Derived.Test.Qxb6601328aDoorSlush
import Derived.Test.Qxb6601328aDoorFlake
import Derived.Test.Qxb6601328aDoorBall0
import Derived.Test.Qxb6601328aDoorBall1
namespace Go.Proofs.Qxb6601328aDoor
open Go.RowKit Go.Own

/-- The colour that a poll succeeded for, or 2. -/
def outc (v0 v1 alpha : Int) : Int := if v0 < v1 then (if alpha ≤ v1 then 1 else 2) else (if alpha ≤ v0 then 0 else 2)

/-- What holds between polls: i polls are done, k of them succeeded. -/
structure Inv (proto : Int) (i k : Nat) (c0 c1 s f col pr : Int) : Prop where
  hle : k ≤ i
  hpr : pr = 0 ∨ pr = 1
  hcol : col = 0 ∨ col = 1
  hs : 0 ≤ s ∧ s ≤ k
  hf : 0 ≤ f ∧ f ≤ k
  h0 : 0 ≤ c0 ∧ c0 ≤ k
  h1 : 0 ≤ c1 ∧ c1 ≤ k
  slush : proto = 1 → c0 = 0 ∧ c1 = 0 ∧ s = 0 ∧ col = 0
  flake : proto = 2 → c0 = 0 ∧ c1 = 0 ∧ (0 < k → pr = col)
  ball : proto = 0 → c0 + c1 = k ∧ (pr = 0 → c1 ≤ c0) ∧ (pr = 1 → c0 ≤ c1) ∧ (col = 0 → s ≤ c0) ∧ (col = 1 → s ≤ c1)

/-- What holds besides, behind a poll whose outcome is o. -/
structure Told (proto beta rounds o : Int) (i : Nat) (before s col pr : Int) (d : Bool) : Prop where
  stay : o = 2 → pr = before
  slush : proto = 1 → d = decide (rounds ≤ (i : Int)) ∧ (o < 2 → pr = o)
  flake : proto = 2 → (o = 2 → s = 0) ∧ (o < 2 → pr = o ∧ col = o ∧ 1 ≤ s ∧ d = decide (beta ≤ s))
  ball : proto = 0 → (o = 2 → s = 0) ∧ (o < 2 → col = o ∧ 1 ≤ s ∧ d = decide (beta ≤ s))

/-- One poll: the new state, and what holds of it. -/
def PolledGood (w : World) (proto beta rounds o : Int) (i k : Nat) (before : Int) (e : Ending) (w' : World) : Prop :=
  ∃ (c0 c1 s f col : Int) (d : Bool) (pr : Int), Polled w c0 c1 s ((i : Int) + 1) f col d pr e w' ∧ Inv proto (i + 1) (k + (if o < 2 then 1 else 0)) c0 c1 s f col pr ∧ Told proto beta rounds o (i + 1) before s col pr d

set_option linter.unusedVariables false in
theorem poll7_1 (alpha beta rounds v0 v1 c0 c1 s f col pr : Int) (d : Bool) (i k : Nat) (w : World) (hi : i ≤ 65536) (hI : Inv 1 i k c0 c1 s f col pr) :
    Calls Tryd.prog 7 #[.pointer (some ⟨w.heap.size, 0, Option.none⟩), .agg #[.int .u8 1, .int .i64 0, .int .i64 alpha, .int .i64 beta, .int .i64 rounds, .int .i64 0, .int .u8 0, .int .i64 0], .pointer (some ⟨w.heap.size + 1, 0, Option.none⟩)] ((w.alloc (ndV c0 c1 s i f v0 v1 col d)).alloc (prO pr))
      (PolledGood w 1 beta rounds (outc v0 v1 alpha) i k pr) := by
  obtain ⟨hle, hpr, hcol, hs, hf, h0, h1, hsl, hfl, hbl⟩ := hI
  have As : 0 ≤ s ∧ s ≤ 1000000 := by omega
  have Ap : 0 ≤ (i : Int) ∧ (i : Int) ≤ 1000000 := by omega
  have Af : 0 ≤ f ∧ f ≤ 1000000 := by omega
  have A0 : 0 ≤ c0 ∧ c0 ≤ 1000000 := by omega
  have A1 : 0 ≤ c1 ∧ c1 ≤ 1000000 := by omega
  obtain ⟨r0, r1, r2, r3⟩ := hsl rfl
  clear hsl hfl hbl
  by_cases hv : v0 < v1
  · by_cases ho : alpha ≤ v1
    · have e : outc v0 v1 alpha = 1 := by unfold outc; rw [if_pos hv, if_pos ho]
      rw [e]
      rcases hpr with rfl | rfl
      · refine (slush_10 alpha beta rounds v0 v1 c0 c1 s i f col 0 d w As Ap Af A0 A1 (decide_eq_true hv) (decide_eq_true ho)).mono ?_
        intro e w' hq
        refine ⟨_, _, _, _, _, _, _, hq, ⟨by first | assumption | (simp; done) | (simp; omega) | omega, by first | assumption | (simp; done) | (simp; omega) | omega, by first | assumption | (simp; done) | (simp; omega) | omega, by first | assumption | (simp; done) | (simp; omega) | omega, by first | assumption | (simp; done) | (simp; omega) | omega, by first | assumption | (simp; done) | (simp; omega) | omega, by first | assumption | (simp; done) | (simp; omega) | omega, by first | assumption | (simp; done) | (simp; omega) | omega, by first | assumption | (simp; done) | (simp; omega) | omega, by first | assumption | (simp; done) | (simp; omega) | omega⟩, ⟨by first | assumption | (simp; done) | (simp; omega) | omega, by first | assumption | (simp; done) | (simp; omega) | omega, by first | assumption | (simp; done) | (simp; omega) | omega, by first | assumption | (simp; done) | (simp; omega) | omega⟩⟩
      · refine (slush_11 alpha beta rounds v0 v1 c0 c1 s i f col 1 d w As Ap Af A0 A1 (decide_eq_true hv) (decide_eq_true ho)).mono ?_
        intro e w' hq
        refine ⟨_, _, _, _, _, _, _, hq, ⟨by first | assumption | (simp; done) | (simp; omega) | omega, by first | assumption | (simp; done) | (simp; omega) | omega, by first | assumption | (simp; done) | (simp; omega) | omega, by first | assumption | (simp; done) | (simp; omega) | omega, by first | assumption | (simp; done) | (simp; omega) | omega, by first | assumption | (simp; done) | (simp; omega) | omega, by first | assumption | (simp; done) | (simp; omega) | omega, by first | assumption | (simp; done) | (simp; omega) | omega, by first | assumption | (simp; done) | (simp; omega) | omega, by first | assumption | (simp; done) | (simp; omega) | omega⟩, ⟨by first | assumption | (simp; done) | (simp; omega) | omega, by first | assumption | (simp; done) | (simp; omega) | omega, by first | assumption | (simp; done) | (simp; omega) | omega, by first | assumption | (simp; done) | (simp; omega) | omega⟩⟩
    · have e : outc v0 v1 alpha = 2 := by unfold outc; rw [if_pos hv, if_neg ho]
      rw [e]
      refine (slush_no1 alpha beta rounds v0 v1 c0 c1 s i f col pr d w As Ap Af A0 A1 (decide_eq_true hv) (decide_eq_false ho)).mono ?_
      intro e w' hq
      refine ⟨_, _, _, _, _, _, _, hq, ⟨by first | assumption | (simp; done) | (simp; omega) | omega, by first | assumption | (simp; done) | (simp; omega) | omega, by first | assumption | (simp; done) | (simp; omega) | omega, by first | assumption | (simp; done) | (simp; omega) | omega, by first | assumption | (simp; done) | (simp; omega) | omega, by first | assumption | (simp; done) | (simp; omega) | omega, by first | assumption | (simp; done) | (simp; omega) | omega, by first | assumption | (simp; done) | (simp; omega) | omega, by first | assumption | (simp; done) | (simp; omega) | omega, by first | assumption | (simp; done) | (simp; omega) | omega⟩, ⟨by first | assumption | (simp; done) | (simp; omega) | omega, by first | assumption | (simp; done) | (simp; omega) | omega, by first | assumption | (simp; done) | (simp; omega) | omega, by first | assumption | (simp; done) | (simp; omega) | omega⟩⟩
  · by_cases ho : alpha ≤ v0
    · have e : outc v0 v1 alpha = 0 := by unfold outc; rw [if_neg hv, if_pos ho]
      rw [e]
      rcases hpr with rfl | rfl
      · refine (slush_00 alpha beta rounds v0 v1 c0 c1 s i f col 0 d w As Ap Af A0 A1 (decide_eq_false hv) (decide_eq_true ho)).mono ?_
        intro e w' hq
        refine ⟨_, _, _, _, _, _, _, hq, ⟨by first | assumption | (simp; done) | (simp; omega) | omega, by first | assumption | (simp; done) | (simp; omega) | omega, by first | assumption | (simp; done) | (simp; omega) | omega, by first | assumption | (simp; done) | (simp; omega) | omega, by first | assumption | (simp; done) | (simp; omega) | omega, by first | assumption | (simp; done) | (simp; omega) | omega, by first | assumption | (simp; done) | (simp; omega) | omega, by first | assumption | (simp; done) | (simp; omega) | omega, by first | assumption | (simp; done) | (simp; omega) | omega, by first | assumption | (simp; done) | (simp; omega) | omega⟩, ⟨by first | assumption | (simp; done) | (simp; omega) | omega, by first | assumption | (simp; done) | (simp; omega) | omega, by first | assumption | (simp; done) | (simp; omega) | omega, by first | assumption | (simp; done) | (simp; omega) | omega⟩⟩
      · refine (slush_01 alpha beta rounds v0 v1 c0 c1 s i f col 1 d w As Ap Af A0 A1 (decide_eq_false hv) (decide_eq_true ho)).mono ?_
        intro e w' hq
        refine ⟨_, _, _, _, _, _, _, hq, ⟨by first | assumption | (simp; done) | (simp; omega) | omega, by first | assumption | (simp; done) | (simp; omega) | omega, by first | assumption | (simp; done) | (simp; omega) | omega, by first | assumption | (simp; done) | (simp; omega) | omega, by first | assumption | (simp; done) | (simp; omega) | omega, by first | assumption | (simp; done) | (simp; omega) | omega, by first | assumption | (simp; done) | (simp; omega) | omega, by first | assumption | (simp; done) | (simp; omega) | omega, by first | assumption | (simp; done) | (simp; omega) | omega, by first | assumption | (simp; done) | (simp; omega) | omega⟩, ⟨by first | assumption | (simp; done) | (simp; omega) | omega, by first | assumption | (simp; done) | (simp; omega) | omega, by first | assumption | (simp; done) | (simp; omega) | omega, by first | assumption | (simp; done) | (simp; omega) | omega⟩⟩
    · have e : outc v0 v1 alpha = 2 := by unfold outc; rw [if_neg hv, if_neg ho]
      rw [e]
      refine (slush_no0 alpha beta rounds v0 v1 c0 c1 s i f col pr d w As Ap Af A0 A1 (decide_eq_false hv) (decide_eq_false ho)).mono ?_
      intro e w' hq
      refine ⟨_, _, _, _, _, _, _, hq, ⟨by first | assumption | (simp; done) | (simp; omega) | omega, by first | assumption | (simp; done) | (simp; omega) | omega, by first | assumption | (simp; done) | (simp; omega) | omega, by first | assumption | (simp; done) | (simp; omega) | omega, by first | assumption | (simp; done) | (simp; omega) | omega, by first | assumption | (simp; done) | (simp; omega) | omega, by first | assumption | (simp; done) | (simp; omega) | omega, by first | assumption | (simp; done) | (simp; omega) | omega, by first | assumption | (simp; done) | (simp; omega) | omega, by first | assumption | (simp; done) | (simp; omega) | omega⟩, ⟨by first | assumption | (simp; done) | (simp; omega) | omega, by first | assumption | (simp; done) | (simp; omega) | omega, by first | assumption | (simp; done) | (simp; omega) | omega, by first | assumption | (simp; done) | (simp; omega) | omega⟩⟩

set_option linter.unusedVariables false in
theorem poll7_2 (alpha beta rounds v0 v1 c0 c1 s f col pr : Int) (d : Bool) (i k : Nat) (w : World) (hi : i ≤ 65536) (hI : Inv 2 i k c0 c1 s f col pr) :
    Calls Tryd.prog 7 #[.pointer (some ⟨w.heap.size, 0, Option.none⟩), .agg #[.int .u8 2, .int .i64 0, .int .i64 alpha, .int .i64 beta, .int .i64 rounds, .int .i64 0, .int .u8 0, .int .i64 0], .pointer (some ⟨w.heap.size + 1, 0, Option.none⟩)] ((w.alloc (ndV c0 c1 s i f v0 v1 col d)).alloc (prO pr))
      (PolledGood w 2 beta rounds (outc v0 v1 alpha) i k pr) := by
  obtain ⟨hle, hpr, hcol, hs, hf, h0, h1, hsl, hfl, hbl⟩ := hI
  have As : 0 ≤ s ∧ s ≤ 1000000 := by omega
  have Ap : 0 ≤ (i : Int) ∧ (i : Int) ≤ 1000000 := by omega
  have Af : 0 ≤ f ∧ f ≤ 1000000 := by omega
  have A0 : 0 ≤ c0 ∧ c0 ≤ 1000000 := by omega
  have A1 : 0 ≤ c1 ∧ c1 ≤ 1000000 := by omega
  obtain ⟨r0, r1, r2⟩ := hfl rfl
  clear hsl hfl hbl
  by_cases hv : v0 < v1
  · by_cases ho : alpha ≤ v1
    · have e : outc v0 v1 alpha = 1 := by unfold outc; rw [if_pos hv, if_pos ho]
      rw [e]
      rcases hpr with rfl | rfl
      · by_cases hc : 1 = col
        · subst hc
          refine (flake_10s alpha beta rounds v0 v1 c0 c1 s i f 1 0 d w As Ap Af A0 A1 (decide_eq_true hv) (decide_eq_true ho)).mono ?_
          intro e w' hq
          refine ⟨_, _, _, _, _, _, _, hq, ⟨by first | assumption | (simp; done) | (simp; omega) | omega, by first | assumption | (simp; done) | (simp; omega) | omega, by first | assumption | (simp; done) | (simp; omega) | omega, by first | assumption | (simp; done) | (simp; omega) | omega, by first | assumption | (simp; done) | (simp; omega) | omega, by first | assumption | (simp; done) | (simp; omega) | omega, by first | assumption | (simp; done) | (simp; omega) | omega, by first | assumption | (simp; done) | (simp; omega) | omega, by first | assumption | (simp; done) | (simp; omega) | omega, by first | assumption | (simp; done) | (simp; omega) | omega⟩, ⟨by first | assumption | (simp; done) | (simp; omega) | omega, by first | assumption | (simp; done) | (simp; omega) | omega, by first | assumption | (simp; done) | (simp; omega) | omega, by first | assumption | (simp; done) | (simp; omega) | omega⟩⟩
        · have hcb : ((1 : Int) == col) = false := by simpa using hc
          refine (flake_10n alpha beta rounds v0 v1 c0 c1 s i f col 0 d w As Ap Af A0 A1 (decide_eq_true hv) (decide_eq_true ho) hcb).mono ?_
          intro e w' hq
          refine ⟨_, _, _, _, _, _, _, hq, ⟨by first | assumption | (simp; done) | (simp; omega) | omega, by first | assumption | (simp; done) | (simp; omega) | omega, by first | assumption | (simp; done) | (simp; omega) | omega, by first | assumption | (simp; done) | (simp; omega) | omega, by first | assumption | (simp; done) | (simp; omega) | omega, by first | assumption | (simp; done) | (simp; omega) | omega, by first | assumption | (simp; done) | (simp; omega) | omega, by first | assumption | (simp; done) | (simp; omega) | omega, by first | assumption | (simp; done) | (simp; omega) | omega, by first | assumption | (simp; done) | (simp; omega) | omega⟩, ⟨by first | assumption | (simp; done) | (simp; omega) | omega, by first | assumption | (simp; done) | (simp; omega) | omega, by first | assumption | (simp; done) | (simp; omega) | omega, by first | assumption | (simp; done) | (simp; omega) | omega⟩⟩
      · by_cases hc : 1 = col
        · subst hc
          refine (flake_11s alpha beta rounds v0 v1 c0 c1 s i f 1 1 d w As Ap Af A0 A1 (decide_eq_true hv) (decide_eq_true ho)).mono ?_
          intro e w' hq
          refine ⟨_, _, _, _, _, _, _, hq, ⟨by first | assumption | (simp; done) | (simp; omega) | omega, by first | assumption | (simp; done) | (simp; omega) | omega, by first | assumption | (simp; done) | (simp; omega) | omega, by first | assumption | (simp; done) | (simp; omega) | omega, by first | assumption | (simp; done) | (simp; omega) | omega, by first | assumption | (simp; done) | (simp; omega) | omega, by first | assumption | (simp; done) | (simp; omega) | omega, by first | assumption | (simp; done) | (simp; omega) | omega, by first | assumption | (simp; done) | (simp; omega) | omega, by first | assumption | (simp; done) | (simp; omega) | omega⟩, ⟨by first | assumption | (simp; done) | (simp; omega) | omega, by first | assumption | (simp; done) | (simp; omega) | omega, by first | assumption | (simp; done) | (simp; omega) | omega, by first | assumption | (simp; done) | (simp; omega) | omega⟩⟩
        · have hcb : ((1 : Int) == col) = false := by simpa using hc
          refine (flake_11n alpha beta rounds v0 v1 c0 c1 s i f col 1 d w As Ap Af A0 A1 (decide_eq_true hv) (decide_eq_true ho) hcb).mono ?_
          intro e w' hq
          refine ⟨_, _, _, _, _, _, _, hq, ⟨by first | assumption | (simp; done) | (simp; omega) | omega, by first | assumption | (simp; done) | (simp; omega) | omega, by first | assumption | (simp; done) | (simp; omega) | omega, by first | assumption | (simp; done) | (simp; omega) | omega, by first | assumption | (simp; done) | (simp; omega) | omega, by first | assumption | (simp; done) | (simp; omega) | omega, by first | assumption | (simp; done) | (simp; omega) | omega, by first | assumption | (simp; done) | (simp; omega) | omega, by first | assumption | (simp; done) | (simp; omega) | omega, by first | assumption | (simp; done) | (simp; omega) | omega⟩, ⟨by first | assumption | (simp; done) | (simp; omega) | omega, by first | assumption | (simp; done) | (simp; omega) | omega, by first | assumption | (simp; done) | (simp; omega) | omega, by first | assumption | (simp; done) | (simp; omega) | omega⟩⟩
    · have e : outc v0 v1 alpha = 2 := by unfold outc; rw [if_pos hv, if_neg ho]
      rw [e]
      refine (flake_no1 alpha beta rounds v0 v1 c0 c1 s i f col pr d w As Ap Af A0 A1 (decide_eq_true hv) (decide_eq_false ho)).mono ?_
      intro e w' hq
      refine ⟨_, _, _, _, _, _, _, hq, ⟨by first | assumption | (simp; done) | (simp; omega) | omega, by first | assumption | (simp; done) | (simp; omega) | omega, by first | assumption | (simp; done) | (simp; omega) | omega, by first | assumption | (simp; done) | (simp; omega) | omega, by first | assumption | (simp; done) | (simp; omega) | omega, by first | assumption | (simp; done) | (simp; omega) | omega, by first | assumption | (simp; done) | (simp; omega) | omega, by first | assumption | (simp; done) | (simp; omega) | omega, by first | assumption | (simp; done) | (simp; omega) | omega, by first | assumption | (simp; done) | (simp; omega) | omega⟩, ⟨by first | assumption | (simp; done) | (simp; omega) | omega, by first | assumption | (simp; done) | (simp; omega) | omega, by first | assumption | (simp; done) | (simp; omega) | omega, by first | assumption | (simp; done) | (simp; omega) | omega⟩⟩
  · by_cases ho : alpha ≤ v0
    · have e : outc v0 v1 alpha = 0 := by unfold outc; rw [if_neg hv, if_pos ho]
      rw [e]
      rcases hpr with rfl | rfl
      · by_cases hc : 0 = col
        · subst hc
          refine (flake_00s alpha beta rounds v0 v1 c0 c1 s i f 0 0 d w As Ap Af A0 A1 (decide_eq_false hv) (decide_eq_true ho)).mono ?_
          intro e w' hq
          refine ⟨_, _, _, _, _, _, _, hq, ⟨by first | assumption | (simp; done) | (simp; omega) | omega, by first | assumption | (simp; done) | (simp; omega) | omega, by first | assumption | (simp; done) | (simp; omega) | omega, by first | assumption | (simp; done) | (simp; omega) | omega, by first | assumption | (simp; done) | (simp; omega) | omega, by first | assumption | (simp; done) | (simp; omega) | omega, by first | assumption | (simp; done) | (simp; omega) | omega, by first | assumption | (simp; done) | (simp; omega) | omega, by first | assumption | (simp; done) | (simp; omega) | omega, by first | assumption | (simp; done) | (simp; omega) | omega⟩, ⟨by first | assumption | (simp; done) | (simp; omega) | omega, by first | assumption | (simp; done) | (simp; omega) | omega, by first | assumption | (simp; done) | (simp; omega) | omega, by first | assumption | (simp; done) | (simp; omega) | omega⟩⟩
        · have hcb : ((0 : Int) == col) = false := by simpa using hc
          refine (flake_00n alpha beta rounds v0 v1 c0 c1 s i f col 0 d w As Ap Af A0 A1 (decide_eq_false hv) (decide_eq_true ho) hcb).mono ?_
          intro e w' hq
          refine ⟨_, _, _, _, _, _, _, hq, ⟨by first | assumption | (simp; done) | (simp; omega) | omega, by first | assumption | (simp; done) | (simp; omega) | omega, by first | assumption | (simp; done) | (simp; omega) | omega, by first | assumption | (simp; done) | (simp; omega) | omega, by first | assumption | (simp; done) | (simp; omega) | omega, by first | assumption | (simp; done) | (simp; omega) | omega, by first | assumption | (simp; done) | (simp; omega) | omega, by first | assumption | (simp; done) | (simp; omega) | omega, by first | assumption | (simp; done) | (simp; omega) | omega, by first | assumption | (simp; done) | (simp; omega) | omega⟩, ⟨by first | assumption | (simp; done) | (simp; omega) | omega, by first | assumption | (simp; done) | (simp; omega) | omega, by first | assumption | (simp; done) | (simp; omega) | omega, by first | assumption | (simp; done) | (simp; omega) | omega⟩⟩
      · by_cases hc : 0 = col
        · subst hc
          refine (flake_01s alpha beta rounds v0 v1 c0 c1 s i f 0 1 d w As Ap Af A0 A1 (decide_eq_false hv) (decide_eq_true ho)).mono ?_
          intro e w' hq
          refine ⟨_, _, _, _, _, _, _, hq, ⟨by first | assumption | (simp; done) | (simp; omega) | omega, by first | assumption | (simp; done) | (simp; omega) | omega, by first | assumption | (simp; done) | (simp; omega) | omega, by first | assumption | (simp; done) | (simp; omega) | omega, by first | assumption | (simp; done) | (simp; omega) | omega, by first | assumption | (simp; done) | (simp; omega) | omega, by first | assumption | (simp; done) | (simp; omega) | omega, by first | assumption | (simp; done) | (simp; omega) | omega, by first | assumption | (simp; done) | (simp; omega) | omega, by first | assumption | (simp; done) | (simp; omega) | omega⟩, ⟨by first | assumption | (simp; done) | (simp; omega) | omega, by first | assumption | (simp; done) | (simp; omega) | omega, by first | assumption | (simp; done) | (simp; omega) | omega, by first | assumption | (simp; done) | (simp; omega) | omega⟩⟩
        · have hcb : ((0 : Int) == col) = false := by simpa using hc
          refine (flake_01n alpha beta rounds v0 v1 c0 c1 s i f col 1 d w As Ap Af A0 A1 (decide_eq_false hv) (decide_eq_true ho) hcb).mono ?_
          intro e w' hq
          refine ⟨_, _, _, _, _, _, _, hq, ⟨by first | assumption | (simp; done) | (simp; omega) | omega, by first | assumption | (simp; done) | (simp; omega) | omega, by first | assumption | (simp; done) | (simp; omega) | omega, by first | assumption | (simp; done) | (simp; omega) | omega, by first | assumption | (simp; done) | (simp; omega) | omega, by first | assumption | (simp; done) | (simp; omega) | omega, by first | assumption | (simp; done) | (simp; omega) | omega, by first | assumption | (simp; done) | (simp; omega) | omega, by first | assumption | (simp; done) | (simp; omega) | omega, by first | assumption | (simp; done) | (simp; omega) | omega⟩, ⟨by first | assumption | (simp; done) | (simp; omega) | omega, by first | assumption | (simp; done) | (simp; omega) | omega, by first | assumption | (simp; done) | (simp; omega) | omega, by first | assumption | (simp; done) | (simp; omega) | omega⟩⟩
    · have e : outc v0 v1 alpha = 2 := by unfold outc; rw [if_neg hv, if_neg ho]
      rw [e]
      refine (flake_no0 alpha beta rounds v0 v1 c0 c1 s i f col pr d w As Ap Af A0 A1 (decide_eq_false hv) (decide_eq_false ho)).mono ?_
      intro e w' hq
      refine ⟨_, _, _, _, _, _, _, hq, ⟨by first | assumption | (simp; done) | (simp; omega) | omega, by first | assumption | (simp; done) | (simp; omega) | omega, by first | assumption | (simp; done) | (simp; omega) | omega, by first | assumption | (simp; done) | (simp; omega) | omega, by first | assumption | (simp; done) | (simp; omega) | omega, by first | assumption | (simp; done) | (simp; omega) | omega, by first | assumption | (simp; done) | (simp; omega) | omega, by first | assumption | (simp; done) | (simp; omega) | omega, by first | assumption | (simp; done) | (simp; omega) | omega, by first | assumption | (simp; done) | (simp; omega) | omega⟩, ⟨by first | assumption | (simp; done) | (simp; omega) | omega, by first | assumption | (simp; done) | (simp; omega) | omega, by first | assumption | (simp; done) | (simp; omega) | omega, by first | assumption | (simp; done) | (simp; omega) | omega⟩⟩

set_option linter.unusedVariables false in
theorem poll7_0 (alpha beta rounds v0 v1 c0 c1 s f col pr : Int) (d : Bool) (i k : Nat) (w : World) (hi : i ≤ 65536) (hI : Inv 0 i k c0 c1 s f col pr) :
    Calls Tryd.prog 7 #[.pointer (some ⟨w.heap.size, 0, Option.none⟩), .agg #[.int .u8 0, .int .i64 0, .int .i64 alpha, .int .i64 beta, .int .i64 rounds, .int .i64 0, .int .u8 0, .int .i64 0], .pointer (some ⟨w.heap.size + 1, 0, Option.none⟩)] ((w.alloc (ndV c0 c1 s i f v0 v1 col d)).alloc (prO pr))
      (PolledGood w 0 beta rounds (outc v0 v1 alpha) i k pr) := by
  obtain ⟨hle, hpr, hcol, hs, hf, h0, h1, hsl, hfl, hbl⟩ := hI
  have As : 0 ≤ s ∧ s ≤ 1000000 := by omega
  have Ap : 0 ≤ (i : Int) ∧ (i : Int) ≤ 1000000 := by omega
  have Af : 0 ≤ f ∧ f ≤ 1000000 := by omega
  have A0 : 0 ≤ c0 ∧ c0 ≤ 1000000 := by omega
  have A1 : 0 ≤ c1 ∧ c1 ≤ 1000000 := by omega
  obtain ⟨r0, r1, r2, r3, r4⟩ := hbl rfl
  clear hsl hfl hbl
  by_cases hv : v0 < v1
  · by_cases ho : alpha ≤ v1
    · have e : outc v0 v1 alpha = 1 := by unfold outc; rw [if_pos hv, if_pos ho]
      rw [e]
      rcases hpr with rfl | rfl
      · by_cases hc : 1 = col
        · subst hc
          by_cases hx : c0 < c1 + 1
          · refine (ball_10sf alpha beta rounds v0 v1 c0 c1 s i f 1 0 d w As Ap Af A0 A1 (decide_eq_true hv) (decide_eq_true ho) (decide_eq_true hx)).mono ?_
            intro e w' hq
            refine ⟨_, _, _, _, _, _, _, hq, ⟨by first | assumption | (simp; done) | (simp; omega) | omega, by first | assumption | (simp; done) | (simp; omega) | omega, by first | assumption | (simp; done) | (simp; omega) | omega, by first | assumption | (simp; done) | (simp; omega) | omega, by first | assumption | (simp; done) | (simp; omega) | omega, by first | assumption | (simp; done) | (simp; omega) | omega, by first | assumption | (simp; done) | (simp; omega) | omega, by first | assumption | (simp; done) | (simp; omega) | omega, by first | assumption | (simp; done) | (simp; omega) | omega, by first | assumption | (simp; done) | (simp; omega) | omega⟩, ⟨by first | assumption | (simp; done) | (simp; omega) | omega, by first | assumption | (simp; done) | (simp; omega) | omega, by first | assumption | (simp; done) | (simp; omega) | omega, by first | assumption | (simp; done) | (simp; omega) | omega⟩⟩
          · refine (ball_10s alpha beta rounds v0 v1 c0 c1 s i f 1 0 d w As Ap Af A0 A1 (decide_eq_true hv) (decide_eq_true ho) (decide_eq_false hx)).mono ?_
            intro e w' hq
            refine ⟨_, _, _, _, _, _, _, hq, ⟨by first | assumption | (simp; done) | (simp; omega) | omega, by first | assumption | (simp; done) | (simp; omega) | omega, by first | assumption | (simp; done) | (simp; omega) | omega, by first | assumption | (simp; done) | (simp; omega) | omega, by first | assumption | (simp; done) | (simp; omega) | omega, by first | assumption | (simp; done) | (simp; omega) | omega, by first | assumption | (simp; done) | (simp; omega) | omega, by first | assumption | (simp; done) | (simp; omega) | omega, by first | assumption | (simp; done) | (simp; omega) | omega, by first | assumption | (simp; done) | (simp; omega) | omega⟩, ⟨by first | assumption | (simp; done) | (simp; omega) | omega, by first | assumption | (simp; done) | (simp; omega) | omega, by first | assumption | (simp; done) | (simp; omega) | omega, by first | assumption | (simp; done) | (simp; omega) | omega⟩⟩
        · have hcb : ((1 : Int) == col) = false := by simpa using hc
          by_cases hx : c0 < c1 + 1
          · refine (ball_10nf alpha beta rounds v0 v1 c0 c1 s i f col 0 d w As Ap Af A0 A1 (decide_eq_true hv) (decide_eq_true ho) hcb (decide_eq_true hx)).mono ?_
            intro e w' hq
            refine ⟨_, _, _, _, _, _, _, hq, ⟨by first | assumption | (simp; done) | (simp; omega) | omega, by first | assumption | (simp; done) | (simp; omega) | omega, by first | assumption | (simp; done) | (simp; omega) | omega, by first | assumption | (simp; done) | (simp; omega) | omega, by first | assumption | (simp; done) | (simp; omega) | omega, by first | assumption | (simp; done) | (simp; omega) | omega, by first | assumption | (simp; done) | (simp; omega) | omega, by first | assumption | (simp; done) | (simp; omega) | omega, by first | assumption | (simp; done) | (simp; omega) | omega, by first | assumption | (simp; done) | (simp; omega) | omega⟩, ⟨by first | assumption | (simp; done) | (simp; omega) | omega, by first | assumption | (simp; done) | (simp; omega) | omega, by first | assumption | (simp; done) | (simp; omega) | omega, by first | assumption | (simp; done) | (simp; omega) | omega⟩⟩
          · refine (ball_10n alpha beta rounds v0 v1 c0 c1 s i f col 0 d w As Ap Af A0 A1 (decide_eq_true hv) (decide_eq_true ho) hcb (decide_eq_false hx)).mono ?_
            intro e w' hq
            refine ⟨_, _, _, _, _, _, _, hq, ⟨by first | assumption | (simp; done) | (simp; omega) | omega, by first | assumption | (simp; done) | (simp; omega) | omega, by first | assumption | (simp; done) | (simp; omega) | omega, by first | assumption | (simp; done) | (simp; omega) | omega, by first | assumption | (simp; done) | (simp; omega) | omega, by first | assumption | (simp; done) | (simp; omega) | omega, by first | assumption | (simp; done) | (simp; omega) | omega, by first | assumption | (simp; done) | (simp; omega) | omega, by first | assumption | (simp; done) | (simp; omega) | omega, by first | assumption | (simp; done) | (simp; omega) | omega⟩, ⟨by first | assumption | (simp; done) | (simp; omega) | omega, by first | assumption | (simp; done) | (simp; omega) | omega, by first | assumption | (simp; done) | (simp; omega) | omega, by first | assumption | (simp; done) | (simp; omega) | omega⟩⟩
      · by_cases hc : 1 = col
        · subst hc
          refine (ball_11s alpha beta rounds v0 v1 c0 c1 s i f 1 1 d w As Ap Af A0 A1 (decide_eq_true hv) (decide_eq_true ho)).mono ?_
          intro e w' hq
          refine ⟨_, _, _, _, _, _, _, hq, ⟨by first | assumption | (simp; done) | (simp; omega) | omega, by first | assumption | (simp; done) | (simp; omega) | omega, by first | assumption | (simp; done) | (simp; omega) | omega, by first | assumption | (simp; done) | (simp; omega) | omega, by first | assumption | (simp; done) | (simp; omega) | omega, by first | assumption | (simp; done) | (simp; omega) | omega, by first | assumption | (simp; done) | (simp; omega) | omega, by first | assumption | (simp; done) | (simp; omega) | omega, by first | assumption | (simp; done) | (simp; omega) | omega, by first | assumption | (simp; done) | (simp; omega) | omega⟩, ⟨by first | assumption | (simp; done) | (simp; omega) | omega, by first | assumption | (simp; done) | (simp; omega) | omega, by first | assumption | (simp; done) | (simp; omega) | omega, by first | assumption | (simp; done) | (simp; omega) | omega⟩⟩
        · have hcb : ((1 : Int) == col) = false := by simpa using hc
          refine (ball_11n alpha beta rounds v0 v1 c0 c1 s i f col 1 d w As Ap Af A0 A1 (decide_eq_true hv) (decide_eq_true ho) hcb).mono ?_
          intro e w' hq
          refine ⟨_, _, _, _, _, _, _, hq, ⟨by first | assumption | (simp; done) | (simp; omega) | omega, by first | assumption | (simp; done) | (simp; omega) | omega, by first | assumption | (simp; done) | (simp; omega) | omega, by first | assumption | (simp; done) | (simp; omega) | omega, by first | assumption | (simp; done) | (simp; omega) | omega, by first | assumption | (simp; done) | (simp; omega) | omega, by first | assumption | (simp; done) | (simp; omega) | omega, by first | assumption | (simp; done) | (simp; omega) | omega, by first | assumption | (simp; done) | (simp; omega) | omega, by first | assumption | (simp; done) | (simp; omega) | omega⟩, ⟨by first | assumption | (simp; done) | (simp; omega) | omega, by first | assumption | (simp; done) | (simp; omega) | omega, by first | assumption | (simp; done) | (simp; omega) | omega, by first | assumption | (simp; done) | (simp; omega) | omega⟩⟩
    · have e : outc v0 v1 alpha = 2 := by unfold outc; rw [if_pos hv, if_neg ho]
      rw [e]
      refine (ball_no1 alpha beta rounds v0 v1 c0 c1 s i f col pr d w As Ap Af A0 A1 (decide_eq_true hv) (decide_eq_false ho)).mono ?_
      intro e w' hq
      refine ⟨_, _, _, _, _, _, _, hq, ⟨by first | assumption | (simp; done) | (simp; omega) | omega, by first | assumption | (simp; done) | (simp; omega) | omega, by first | assumption | (simp; done) | (simp; omega) | omega, by first | assumption | (simp; done) | (simp; omega) | omega, by first | assumption | (simp; done) | (simp; omega) | omega, by first | assumption | (simp; done) | (simp; omega) | omega, by first | assumption | (simp; done) | (simp; omega) | omega, by first | assumption | (simp; done) | (simp; omega) | omega, by first | assumption | (simp; done) | (simp; omega) | omega, by first | assumption | (simp; done) | (simp; omega) | omega⟩, ⟨by first | assumption | (simp; done) | (simp; omega) | omega, by first | assumption | (simp; done) | (simp; omega) | omega, by first | assumption | (simp; done) | (simp; omega) | omega, by first | assumption | (simp; done) | (simp; omega) | omega⟩⟩
  · by_cases ho : alpha ≤ v0
    · have e : outc v0 v1 alpha = 0 := by unfold outc; rw [if_neg hv, if_pos ho]
      rw [e]
      rcases hpr with rfl | rfl
      · by_cases hc : 0 = col
        · subst hc
          refine (ball_00s alpha beta rounds v0 v1 c0 c1 s i f 0 0 d w As Ap Af A0 A1 (decide_eq_false hv) (decide_eq_true ho)).mono ?_
          intro e w' hq
          refine ⟨_, _, _, _, _, _, _, hq, ⟨by first | assumption | (simp; done) | (simp; omega) | omega, by first | assumption | (simp; done) | (simp; omega) | omega, by first | assumption | (simp; done) | (simp; omega) | omega, by first | assumption | (simp; done) | (simp; omega) | omega, by first | assumption | (simp; done) | (simp; omega) | omega, by first | assumption | (simp; done) | (simp; omega) | omega, by first | assumption | (simp; done) | (simp; omega) | omega, by first | assumption | (simp; done) | (simp; omega) | omega, by first | assumption | (simp; done) | (simp; omega) | omega, by first | assumption | (simp; done) | (simp; omega) | omega⟩, ⟨by first | assumption | (simp; done) | (simp; omega) | omega, by first | assumption | (simp; done) | (simp; omega) | omega, by first | assumption | (simp; done) | (simp; omega) | omega, by first | assumption | (simp; done) | (simp; omega) | omega⟩⟩
        · have hcb : ((0 : Int) == col) = false := by simpa using hc
          refine (ball_00n alpha beta rounds v0 v1 c0 c1 s i f col 0 d w As Ap Af A0 A1 (decide_eq_false hv) (decide_eq_true ho) hcb).mono ?_
          intro e w' hq
          refine ⟨_, _, _, _, _, _, _, hq, ⟨by first | assumption | (simp; done) | (simp; omega) | omega, by first | assumption | (simp; done) | (simp; omega) | omega, by first | assumption | (simp; done) | (simp; omega) | omega, by first | assumption | (simp; done) | (simp; omega) | omega, by first | assumption | (simp; done) | (simp; omega) | omega, by first | assumption | (simp; done) | (simp; omega) | omega, by first | assumption | (simp; done) | (simp; omega) | omega, by first | assumption | (simp; done) | (simp; omega) | omega, by first | assumption | (simp; done) | (simp; omega) | omega, by first | assumption | (simp; done) | (simp; omega) | omega⟩, ⟨by first | assumption | (simp; done) | (simp; omega) | omega, by first | assumption | (simp; done) | (simp; omega) | omega, by first | assumption | (simp; done) | (simp; omega) | omega, by first | assumption | (simp; done) | (simp; omega) | omega⟩⟩
      · by_cases hc : 0 = col
        · subst hc
          by_cases hx : c1 < c0 + 1
          · refine (ball_01sf alpha beta rounds v0 v1 c0 c1 s i f 0 1 d w As Ap Af A0 A1 (decide_eq_false hv) (decide_eq_true ho) (decide_eq_true hx)).mono ?_
            intro e w' hq
            refine ⟨_, _, _, _, _, _, _, hq, ⟨by first | assumption | (simp; done) | (simp; omega) | omega, by first | assumption | (simp; done) | (simp; omega) | omega, by first | assumption | (simp; done) | (simp; omega) | omega, by first | assumption | (simp; done) | (simp; omega) | omega, by first | assumption | (simp; done) | (simp; omega) | omega, by first | assumption | (simp; done) | (simp; omega) | omega, by first | assumption | (simp; done) | (simp; omega) | omega, by first | assumption | (simp; done) | (simp; omega) | omega, by first | assumption | (simp; done) | (simp; omega) | omega, by first | assumption | (simp; done) | (simp; omega) | omega⟩, ⟨by first | assumption | (simp; done) | (simp; omega) | omega, by first | assumption | (simp; done) | (simp; omega) | omega, by first | assumption | (simp; done) | (simp; omega) | omega, by first | assumption | (simp; done) | (simp; omega) | omega⟩⟩
          · refine (ball_01s alpha beta rounds v0 v1 c0 c1 s i f 0 1 d w As Ap Af A0 A1 (decide_eq_false hv) (decide_eq_true ho) (decide_eq_false hx)).mono ?_
            intro e w' hq
            refine ⟨_, _, _, _, _, _, _, hq, ⟨by first | assumption | (simp; done) | (simp; omega) | omega, by first | assumption | (simp; done) | (simp; omega) | omega, by first | assumption | (simp; done) | (simp; omega) | omega, by first | assumption | (simp; done) | (simp; omega) | omega, by first | assumption | (simp; done) | (simp; omega) | omega, by first | assumption | (simp; done) | (simp; omega) | omega, by first | assumption | (simp; done) | (simp; omega) | omega, by first | assumption | (simp; done) | (simp; omega) | omega, by first | assumption | (simp; done) | (simp; omega) | omega, by first | assumption | (simp; done) | (simp; omega) | omega⟩, ⟨by first | assumption | (simp; done) | (simp; omega) | omega, by first | assumption | (simp; done) | (simp; omega) | omega, by first | assumption | (simp; done) | (simp; omega) | omega, by first | assumption | (simp; done) | (simp; omega) | omega⟩⟩
        · have hcb : ((0 : Int) == col) = false := by simpa using hc
          by_cases hx : c1 < c0 + 1
          · refine (ball_01nf alpha beta rounds v0 v1 c0 c1 s i f col 1 d w As Ap Af A0 A1 (decide_eq_false hv) (decide_eq_true ho) hcb (decide_eq_true hx)).mono ?_
            intro e w' hq
            refine ⟨_, _, _, _, _, _, _, hq, ⟨by first | assumption | (simp; done) | (simp; omega) | omega, by first | assumption | (simp; done) | (simp; omega) | omega, by first | assumption | (simp; done) | (simp; omega) | omega, by first | assumption | (simp; done) | (simp; omega) | omega, by first | assumption | (simp; done) | (simp; omega) | omega, by first | assumption | (simp; done) | (simp; omega) | omega, by first | assumption | (simp; done) | (simp; omega) | omega, by first | assumption | (simp; done) | (simp; omega) | omega, by first | assumption | (simp; done) | (simp; omega) | omega, by first | assumption | (simp; done) | (simp; omega) | omega⟩, ⟨by first | assumption | (simp; done) | (simp; omega) | omega, by first | assumption | (simp; done) | (simp; omega) | omega, by first | assumption | (simp; done) | (simp; omega) | omega, by first | assumption | (simp; done) | (simp; omega) | omega⟩⟩
          · refine (ball_01n alpha beta rounds v0 v1 c0 c1 s i f col 1 d w As Ap Af A0 A1 (decide_eq_false hv) (decide_eq_true ho) hcb (decide_eq_false hx)).mono ?_
            intro e w' hq
            refine ⟨_, _, _, _, _, _, _, hq, ⟨by first | assumption | (simp; done) | (simp; omega) | omega, by first | assumption | (simp; done) | (simp; omega) | omega, by first | assumption | (simp; done) | (simp; omega) | omega, by first | assumption | (simp; done) | (simp; omega) | omega, by first | assumption | (simp; done) | (simp; omega) | omega, by first | assumption | (simp; done) | (simp; omega) | omega, by first | assumption | (simp; done) | (simp; omega) | omega, by first | assumption | (simp; done) | (simp; omega) | omega, by first | assumption | (simp; done) | (simp; omega) | omega, by first | assumption | (simp; done) | (simp; omega) | omega⟩, ⟨by first | assumption | (simp; done) | (simp; omega) | omega, by first | assumption | (simp; done) | (simp; omega) | omega, by first | assumption | (simp; done) | (simp; omega) | omega, by first | assumption | (simp; done) | (simp; omega) | omega⟩⟩
    · have e : outc v0 v1 alpha = 2 := by unfold outc; rw [if_neg hv, if_neg ho]
      rw [e]
      refine (ball_no0 alpha beta rounds v0 v1 c0 c1 s i f col pr d w As Ap Af A0 A1 (decide_eq_false hv) (decide_eq_false ho)).mono ?_
      intro e w' hq
      refine ⟨_, _, _, _, _, _, _, hq, ⟨by first | assumption | (simp; done) | (simp; omega) | omega, by first | assumption | (simp; done) | (simp; omega) | omega, by first | assumption | (simp; done) | (simp; omega) | omega, by first | assumption | (simp; done) | (simp; omega) | omega, by first | assumption | (simp; done) | (simp; omega) | omega, by first | assumption | (simp; done) | (simp; omega) | omega, by first | assumption | (simp; done) | (simp; omega) | omega, by first | assumption | (simp; done) | (simp; omega) | omega, by first | assumption | (simp; done) | (simp; omega) | omega, by first | assumption | (simp; done) | (simp; omega) | omega⟩, ⟨by first | assumption | (simp; done) | (simp; omega) | omega, by first | assumption | (simp; done) | (simp; omega) | omega, by first | assumption | (simp; done) | (simp; omega) | omega, by first | assumption | (simp; done) | (simp; omega) | omega⟩⟩

end Go.Proofs.Qxb6601328aDoor
