namespace Go.Proofs.Qxb6602460a

/-- There is a way from v to w. -/
def Reach (E : Nat → Nat → Prop) (v w : Nat) : Prop := v = w ∨ Relation.TransGen E v w

variable {E : Nat → Nat → Prop} {a b c : Nat}

theorem Reach.refl (a : Nat) : Reach E a a := .inl rfl
theorem Reach.one (h : E a b) : Reach E a b := .inr (.single h)
theorem Reach.trans (h : Reach E a b) (h' : Reach E b c) : Reach E a c := by
  rcases h with rfl | h
  · exact h'
  · rcases h' with rfl | h'
    · exact .inr h
    · exact .inr (h.trans h')

/-- What is closed under the edges is not left. -/
theorem Reach.closed {C : Nat → Prop} (hC : ∀ x y, C x → E x y → C y) (h : Reach E a b) (ha : C a) : C b := by
  rcases h with rfl | h
  · exact ha
  · induction h with
    | single h => exact hC _ _ ha h
    | tail _ h ih => exact hC _ _ ih h

/-- A way out of a set takes an edge out of it. -/
theorem Reach.exit {C : Nat → Prop} (h : Reach E a b) (ha : C a) (hb : ¬ C b) : ∃ x y, Reach E a x ∧ C x ∧ E x y ∧ ¬ C y ∧ Reach E y b := by
  rcases h with rfl | h
  · exact absurd ha hb
  · induction h with
    | single h => exact ⟨_, _, .refl _, ha, h, hb, .refl _⟩
    | tail h1 h2 ih =>
      rename_i b' c'
      by_cases hc : C b'
      · exact ⟨_, _, .inr h1, hc, h2, hb, .refl _⟩
      · obtain ⟨x, y, g1, g2, g3, g4, g5⟩ := ih hc
        exact ⟨x, y, g1, g2, g3, g4, g5.trans (.one h2)⟩

/-- The last step into a set: dual. -/
theorem Reach.head (h : Reach E a b) : a = b ∨ ∃ x, E a x ∧ Reach E x b := by
  rcases h with rfl | h
  · exact .inl rfl
  · refine .inr ?_
    induction h with
    | single h => exact ⟨_, h, .refl _⟩
    | tail _ h2 ih =>
      obtain ⟨x, g1, g2⟩ := ih
      exact ⟨x, g1, g2.trans (.one h2)⟩

/-- Another node is reached and reaches back. -/
def OnCyc (E : Nat → Nat → Prop) (v : Nat) : Prop := ∃ w, w ≠ v ∧ Reach E v w ∧ Reach E w v
end Go.Proofs.Qxb6602460a
