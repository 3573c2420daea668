import Derived.Test.Qxb6002590aSixG
namespace Go.Proofs.Qxb6002590a
open Go.RowKit Go.Own

theorem rowOf_split (V : Nat → List Int) (κ : Nat → Nat) {q kn : Nat} (h : q ≤ kn) : ∃ t, rowOf V κ kn = rowOf V κ q ++ t := by
  induction kn with
  | zero => exact ⟨[], by have : q = 0 := by omega
                          subst this; simp⟩
  | succ k ih =>
    by_cases e : q = k + 1
    · subst e; exact ⟨[], by simp⟩
    · obtain ⟨t, ht⟩ := ih (by omega)
      exact ⟨t ++ V (κ k), by simp only [rowOf]; rw [ht, List.append_assoc]⟩

/-- What is known of the columns. -/
structure Good (n kn : Nat) (S : Nat → Sp) (V : Nat → List Int) (κ : Nat → Nat) : Prop where
  at_ : ∀ j, j < kn → κ j < n
  adm : ∀ i, i < n → (above (V i) (S i).lo (S i).la.isNone (S i).le && under (V i) (S i).hi (S i).ha.isNone (S i).he) = true
  fl : ∀ i, i < n → free (V i) (S i).lo (S i).la.isNone = true
  fh : ∀ i, i < n → free (V i) (S i).hi (S i).ha.isNone = true
  nl : ∀ i, i < n → (S i).la = Option.none → (S i).lo = []
  nh : ∀ i, i < n → (S i).ha = Option.none → (S i).hi = []
  ul : ∀ i, i < n → U8 (S i).lo ∧ U8 (S i).hi ∧ U8 (V i)

theorem Good.low {n kn : Nat} {S : Nat → Sp} {V : Nat → List Int} {κ : Nat → Nat} (g : Good n kn S V κ) {i : Nat} (hi : i < n) (h : (S i).la.isNone = false) : 0 ≤ cmp (V i) (S i).lo ∧ ((S i).le = true → 0 < cmp (V i) (S i).lo) ∧ ppre (S i).lo (V i) = false := by
  have h1 := g.adm i hi
  have h2 := g.fl i hi
  simp only [above, under, free, h, Bool.false_or, Bool.and_eq_true, Bool.not_eq_true', Bool.or_eq_false_iff, decide_eq_false_iff_not, Bool.and_eq_false_iff, beq_eq_false_iff_ne] at h1 h2
  refine ⟨by omega, fun hle => ?_, h2.1⟩
  rcases h1.1.2 with h3 | h3
  · omega
  · rw [hle] at h3; cases h3

theorem Good.high {n kn : Nat} {S : Nat → Sp} {V : Nat → List Int} {κ : Nat → Nat} (g : Good n kn S V κ) {i : Nat} (hi : i < n) (h : (S i).ha.isNone = false) : cmp (V i) (S i).hi ≤ 0 ∧ ((S i).he = true → cmp (V i) (S i).hi < 0) ∧ ppre (V i) (S i).hi = false := by
  have h1 := g.adm i hi
  have h2 := g.fh i hi
  simp only [above, under, free, h, Bool.false_or, Bool.and_eq_true, Bool.not_eq_true', Bool.or_eq_false_iff, decide_eq_false_iff_not, Bool.and_eq_false_iff, beq_eq_false_iff_ne] at h1 h2
  refine ⟨by omega, fun hle => ?_, h2.2⟩
  rcases h1.2.2 with h3 | h3
  · omega
  · rw [hle] at h3; cases h3

theorem Good.pfx {n kn : Nat} {S : Nat → Sp} {V : Nat → List Int} {κ : Nat → Nat} (g : Good n kn S V κ) : ∀ q, q ≤ kn → (∀ j, j < q → (S (κ j)).point = true) → rowOf V κ q = pfxOf S κ q
  | 0, _, _ => rfl
  | q + 1, hq, hp => by
    have ih := g.pfx q (by omega) (fun j hj => hp j (by omega))
    have hpt := hp q (by omega)
    simp only [Sp.point, Bool.and_eq_true, Bool.not_eq_true', decide_eq_true_eq] at hpt
    obtain ⟨⟨⟨⟨h1, h2⟩, h3⟩, h4⟩, h5⟩ := hpt
    have hκ := g.at_ q (by omega)
    have a1 := (g.low hκ h1).1
    have a2 := (g.high hκ h2).1
    rw [← h5] at a2
    have : V (κ q) = (S (κ q)).lo := cmp_eq (by omega)
    simp only [rowOf, pfxOf]
    rw [ih, this]

theorem pfx_u8' {n kn : Nat} {S : Nat → Sp} {V : Nat → List Int} {κ : Nat → Nat} (g : Good n kn S V κ) : ∀ q, q ≤ kn → U8 (pfxOf S κ q)
  | 0, _ => fun x hx => (by cases hx)
  | q + 1, h => u8_append (pfx_u8' g q (by omega)) (g.ul _ (g.at_ q (by omega))).1

theorem row_u8 {n kn : Nat} {S : Nat → Sp} {V : Nat → List Int} {κ : Nat → Nat} (g : Good n kn S V κ) : ∀ q, q ≤ kn → U8 (rowOf V κ q)
  | 0, _ => fun x hx => (by cases hx)
  | q + 1, h => u8_append (row_u8 g q (by omega)) (g.ul _ (g.at_ q (by omega))).2.2

theorem row_holds {n kn q : Nat} {S : Nat → Sp} {V : Nat → List Int} {κ : Nat → Nat} (g : Good n kn S V κ) (hq : IsEq S κ kn q) :
    ∃ low, lowOf (pfxOf S κ q).isEmpty (pfxOf S κ q) (nextOf S κ kn q) = some low ∧ overLow low (rowOf V κ kn) = true ∧ underUp (upOf (pfxOf S κ q).isEmpty (pfxOf S κ q) (nextOf S κ kn q)) (rowOf V κ kn) = true := by
  have hp := g.pfx q hq.1 hq.2.1
  have hpu := pfx_u8' g q hq.1
  have hru := row_u8 g kn (Nat.le_refl _)
  by_cases hlt : q < kn
  · have hκ := g.at_ q hlt
    obtain ⟨hul, huh, huv⟩ := g.ul _ hκ
    rw [show nextOf S κ kn q = S (κ q) from if_pos hlt]
    obtain ⟨t, ht⟩ := rowOf_split V κ (show q + 1 ≤ kn from hlt)
    simp only [rowOf] at ht
    rw [hp, List.append_assoc] at ht
    rw [ht] at hru ⊢
    generalize pfxOf S κ q = p at hpu hru ⊢
    have hlow := fun h => g.low hκ (i := κ q) h
    have hhigh := fun h => g.high hκ (i := κ q) h
    have hnl := g.nl _ hκ
    have hnh := g.nh _ hκ
    generalize V (κ q) = v at huv hru hlow hhigh ⊢
    generalize S (κ q) = s at hul huh hlow hhigh hnl hnh ⊢
    have HU : underUp (upOf p.isEmpty p s) (p ++ (v ++ t)) = true := by
      unfold upOf
      by_cases h1 : (!s.ha.isNone && s.he) = true
      · rw [if_pos h1]
        simp only [Bool.and_eq_true, Bool.not_eq_true'] at h1
        obtain ⟨b1, b2, b3⟩ := hhigh h1.1
        have := less_more v s.hi t (b2 h1.2) b3
        simpa [underUp, cmp_append] using this
      · rw [if_neg h1]
        by_cases h2 : (!s.ha.isNone || !p.isEmpty) = true
        · rw [if_pos h2]
          cases hA : aft (p ++ s.hi) with
          | none => rfl
          | some r =>
            have hl := aft_law (p ++ s.hi) (p ++ (v ++ t)) r hA (u8_append hpu huh) hru
            simp only [underUp, decide_eq_true_eq]
            rw [hl, cmp_append, pre_append]
            cases hn : s.ha.isNone
            · obtain ⟨b1, b2, b3⟩ := hhigh hn
              rcases Int.lt_or_eq_of_le b1 with b4 | b4
              · exact .inl (Int.le_of_lt (less_more v s.hi t b4 b3))
              · rw [cmp_eq b4]; exact .inr (pre_more _ _)
            · have : s.ha = Option.none := by simpa using hn
              rw [hnh this]
              exact .inr (pre_nil _)
        · rw [if_neg h2]; rfl
    unfold lowOf
    by_cases h1 : (!s.la.isNone && s.le) = true
    · rw [if_pos h1]
      simp only [Bool.and_eq_true, Bool.not_eq_true'] at h1
      obtain ⟨b1, b2, b3⟩ := hlow h1.1
      obtain ⟨d1, d2⟩ := over_more v s.lo t (b2 h1.2) b3
      cases hA : aft (p ++ s.lo) with
      | none =>
        exfalso
        have := under_all (p ++ s.lo) (p ++ (v ++ t)) (aft_none hA) hru
        rw [cmp_append, pre_append, d2] at this
        rcases this with h | h
        · omega
        · cases h
      | some r =>
        refine ⟨some r, rfl, ?_, HU⟩
        have hl := aft_law (p ++ s.lo) (p ++ (v ++ t)) r hA (u8_append hpu hul) hru
        rw [cmp_append, pre_append, d2] at hl
        simp only [overLow, decide_eq_true_eq]
        by_cases hc : cmp (p ++ (v ++ t)) r < 0
        · rcases hl.1 hc with h | h
          · omega
          · cases h
        · omega
    · rw [if_neg h1]
      by_cases h2 : (!s.la.isNone || !p.isEmpty) = true
      · rw [if_pos h2]
        refine ⟨_, rfl, ?_, HU⟩
        simp only [overLow, decide_eq_true_eq]
        rw [cmp_append]
        cases hn : s.la.isNone
        · exact geq_more v s.lo t (hlow hn).1
        · have : s.la = Option.none := by simpa using hn
          rw [hnl this]
          exact cmp_nil_right _
      · rw [if_neg h2]
        exact ⟨_, rfl, rfl, HU⟩
  · have e : q = kn := by have := hq.1; omega
    subst e
    rw [show nextOf S κ q q = zeroSp from if_neg hlt, hp]
    rw [hp] at hru
    generalize pfxOf S κ q = p at hpu hru ⊢
    cases p with
    | nil => exact ⟨Option.none, rfl, rfl, rfl⟩
    | cons x xs =>
      refine ⟨some (x :: xs), by simp [lowOf, zeroSp], by simp [overLow, cmp_self], ?_⟩
      have : upOf (x :: xs).isEmpty (x :: xs) zeroSp = aft (x :: xs) := by simp [upOf, zeroSp]
      rw [this]
      cases hA : aft (x :: xs) with
      | none => rfl
      | some r =>
        have hl := aft_law (x :: xs) (x :: xs) r hA hpu hru
        simp only [underUp, decide_eq_true_eq]
        rw [hl]
        exact .inl (by rw [cmp_self]; exact Int.le_refl _)

end Go.Proofs.Qxb6002590a
