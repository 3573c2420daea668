import Derived.Test.Qxb6002590aBytes
namespace Go.Proofs.Qxb6002590a
open Go.RowKit Go.Own

/-- The least key above every key that starts with the given one. -/
def aft : List Int → Option (List Int)
  | [] => Option.none
  | x :: xs => match aft xs with
    | some r => some (x :: r)
    | Option.none => if x = 255 then Option.none else some [x + 1]

theorem aft_all : ∀ (p : List Int), (∀ j, j < p.length → p.getD j 0 = 255) → aft p = Option.none
  | [], _ => rfl
  | x :: xs, h => by
    have ih := aft_all xs (fun j hj => by simpa using h (j + 1) (by simp; omega))
    have hx : x = 255 := by simpa using h 0 (by simp)
    simp [aft, ih, hx]

theorem aft_at : ∀ (p : List Int) (q : Nat), q < p.length → p.getD q 0 ≠ 255 → (∀ j, q < j → j < p.length → p.getD j 0 = 255) → aft p = some (p.take q ++ [p.getD q 0 + 1])
  | [], _, h, _, _ => absurd h (Nat.not_lt_zero _)
  | x :: xs, 0, _, hne, h => by
    have ih := aft_all xs (fun j hj => by simpa using h (j + 1) (by omega) (by simp; omega))
    have hx : x ≠ 255 := by simpa using hne
    simp [aft, ih, hx]
  | x :: xs, q + 1, hq, hne, h => by
    have ih := aft_at xs q (by simpa using hq) (by simpa using hne) (fun j h1 h2 => by simpa using h (j + 1) (by omega) (by simp; omega))
    simp [aft, ih]

theorem aft_none {p : List Int} (h : aft p = Option.none) : ∀ x ∈ p, x = 255 := by
  induction p with
  | nil => intro x hx; cases hx
  | cons y ys ih =>
    simp only [aft] at h
    split at h
    · cases h
    · rename_i hr
      split at h
      · rename_i hy
        intro x hx
        rcases List.mem_cons.1 hx with rfl | hx
        · exact hy
        · exact ih hr x hx
      · cases h

theorem u8_tail {x : Int} {xs : List Int} (h : U8 (x :: xs)) : U8 xs := fun z hz => h z (List.mem_cons_of_mem _ hz)
theorem u8_head {x : Int} {xs : List Int} (h : U8 (x :: xs)) : 0 ≤ x ∧ x ≤ 255 := h x (List.mem_cons_self ..)

theorem cmp_self : ∀ (a : List Int), cmp a a = 0
  | [] => rfl
  | x :: xs => by simp [cmp, cmp_self xs]

theorem cmp_eq : ∀ {a b : List Int}, cmp a b = 0 → a = b
  | [], [], _ => rfl
  | [], _ :: _, h => by simp [cmp] at h
  | _ :: _, [], h => by simp [cmp] at h
  | x :: xs, y :: ys, h => by
    simp only [cmp] at h
    split at h
    · omega
    · split at h
      · omega
      · have : x = y := by omega
        rw [this, cmp_eq h]

theorem cmp_append (a x y : List Int) : cmp (a ++ x) (a ++ y) = cmp x y := by
  induction a with
  | nil => rfl
  | cons z zs ih => simp [cmp, ih]

theorem pre_append (a x y : List Int) : pre (a ++ x) (a ++ y) = pre x y := by
  induction a with
  | nil => rfl
  | cons z zs ih => simpa [pre, List.isPrefixOf] using ih

theorem cmp_nil_left (k : List Int) : cmp [] k ≤ 0 := by cases k <;> simp [cmp]
theorem cmp_nil_right (k : List Int) : 0 ≤ cmp k [] := by cases k <;> simp [cmp]

/-- Nothing lies above p's keys: every key is at most p, or starts with it. -/
theorem under_all : ∀ (p k : List Int), (∀ x ∈ p, x = 255) → U8 k → cmp k p ≤ 0 ∨ pre p k = true
  | [], k, _, _ => .inr (pre_nil k)
  | y :: ys, [], _, _ => .inl (by simp [cmp])
  | y :: ys, x :: xs, h, hk => by
    have hy := h y (List.mem_cons_self ..)
    have hx := u8_head hk
    rcases Int.lt_or_eq_of_le (show x ≤ y by omega) with hl | he
    · exact .inl (by simp [cmp, hl])
    · subst he
      rcases under_all ys xs (fun z hz => h z (List.mem_cons_of_mem _ hz)) (u8_tail hk) with h1 | h1
      · exact .inl (by simpa [cmp] using h1)
      · exact .inr (by simpa [pre, List.isPrefixOf] using h1)

/-- Below the least key above p's keys lie just the keys that are at most p or start with it. -/
theorem aft_law : ∀ (p k r : List Int), aft p = some r → U8 p → U8 k → (cmp k r < 0 ↔ cmp k p ≤ 0 ∨ pre p k = true)
  | [], _, _, h, _, _ => by simp [aft] at h
  | y :: ys, k, r, h, hp, hk => by
    simp only [aft] at h
    split at h
    · rename_i r' hr
      cases h
      cases k with
      | nil => simp [cmp]
      | cons x xs =>
        have ih := aft_law ys xs r' hr (u8_tail hp) (u8_tail hk)
        rcases Int.lt_trichotomy x y with hl | he | hg
        · simp [cmp, hl]
        · subst he
          simpa [cmp, pre, List.isPrefixOf] using ih
        · have h1 : ¬ x < y := by omega
          have h2 : ¬ y = x := by omega
          simp [cmp, h1, hg, pre, List.isPrefixOf, h2]
    · rename_i hr
      split at h
      · cases h
      · cases h
        cases k with
        | nil => simp [cmp]
        | cons x xs =>
          rcases Int.lt_trichotomy x y with hl | he | hg
          · have h1 : x < y + 1 := by omega
            simp [cmp, hl, h1]
          · subst he
            have h1 : x < x + 1 := by omega
            have := under_all ys xs (aft_none hr) (u8_tail hk)
            simpa [cmp, pre, List.isPrefixOf, h1] using this
          · have h1 : ¬ x < y := by omega
            have h2 : ¬ y = x := by omega
            have h3 : ¬ x < y + 1 := by omega
            have h4 := cmp_nil_right xs
            by_cases h5 : y + 1 < x
            · simp [cmp, h1, hg, pre, List.isPrefixOf, h2, h3, h5]
            · simp [cmp, h1, hg, pre, List.isPrefixOf, h2, h3, h5]
              exact h4

theorem u8_append {a b : List Int} (ha : U8 a) (hb : U8 b) : U8 (a ++ b) := fun z hz => by
  rcases List.mem_append.1 hz with h | h
  · exact ha z h
  · exact hb z h

theorem ppre_cons (x : Int) (a b : List Int) : ppre (x :: a) (x :: b) = ppre a b := by simp [ppre, pre, List.isPrefixOf]

theorem over_more : ∀ (v lo t : List Int), 0 < cmp v lo → ppre lo v = false → 0 < cmp (v ++ t) lo ∧ pre lo (v ++ t) = false
  | [], lo, _, h, _ => by have := cmp_nil_left lo; omega
  | x :: v, [], _, _, h => by simp [ppre, pre] at h
  | x :: v, y :: lo, t, h, hp => by
    rcases Int.lt_trichotomy x y with hl | he | hg
    · simp [cmp, hl] at h
    · subst he
      rw [ppre_cons] at hp
      have := over_more v lo t (by simpa [cmp] using h) hp
      simpa [cmp, pre, List.isPrefixOf] using this
    · have h1 : ¬ x < y := by omega
      have h2 : ¬ y = x := by omega
      simp [cmp, h1, hg, pre, List.isPrefixOf, h2]

theorem geq_more : ∀ (v lo t : List Int), 0 ≤ cmp v lo → 0 ≤ cmp (v ++ t) lo
  | [], [], t, _ => cmp_nil_right _
  | [], y :: lo, _, h => by simp [cmp] at h
  | x :: v, [], t, _ => cmp_nil_right _
  | x :: v, y :: lo, t, h => by
    rcases Int.lt_trichotomy x y with hl | he | hg
    · simp [cmp, hl] at h
    · subst he
      have := geq_more v lo t (by simpa [cmp] using h)
      simpa [cmp] using this
    · have h1 : ¬ x < y := by omega
      simp [cmp, h1, hg]

theorem less_more : ∀ (v hi t : List Int), cmp v hi < 0 → ppre v hi = false → cmp (v ++ t) hi < 0
  | [], [], _, h, _ => by simp [cmp] at h
  | [], y :: hi, _, _, hp => by simp [ppre, pre] at hp
  | x :: v, [], _, h, _ => by simp [cmp] at h
  | x :: v, y :: hi, t, h, hp => by
    rcases Int.lt_trichotomy x y with hl | he | hg
    · simp [cmp, hl]
    · subst he
      rw [ppre_cons] at hp
      have := less_more v hi t (by simpa [cmp] using h) hp
      simpa [cmp] using this
    · have h1 : ¬ x < y := by omega
      simp [cmp, h1, hg] at h

theorem pre_more (a t : List Int) : pre a (a ++ t) = true := by
  have := pre_append a [] t
  rw [List.append_nil] at this
  rw [this, pre_nil]
end Go.Proofs.Qxb6002590a
