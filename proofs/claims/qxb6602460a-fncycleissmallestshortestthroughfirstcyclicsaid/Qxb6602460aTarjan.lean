import Derived.Test.Qxb6602460aReach
namespace Go.Proofs.Qxb6602460a

/-- Where the search stands. -/
structure TS where
  ord : Nat → Nat
  low : Nat → Nat
  onS : Nat → Bool
  cyc : Nat → Bool
  stk : List Nat
  step : Nat

def updN (f : Nat → Nat) (k v : Nat) : Nat → Nat := fun x => if x = k then v else f x
def updB (f : Nat → Bool) (k : Nat) (v : Bool) : Nat → Bool := fun x => if x = k then v else f x

theorem updN_same (f : Nat → Nat) (k v : Nat) : updN f k v k = v := if_pos rfl
theorem updN_other (f : Nat → Nat) {k x : Nat} (v : Nat) (h : x ≠ k) : updN f k v x = f x := if_neg h
theorem updB_same (f : Nat → Bool) (k : Nat) (v : Bool) : updB f k v k = v := if_pos rfl
theorem updB_other (f : Nat → Bool) {k x : Nat} (v : Bool) (h : x ≠ k) : updB f k v x = f x := if_neg h

structure TInv (E : Nat → Nat → Prop) (n : Nat) (G : List Nat) (s : TS) : Prop where
  bnd : ∀ x, s.ord x ≤ s.step
  inj : ∀ x y, s.ord x ≠ 0 → s.ord x = s.ord y → x = y
  mem : ∀ x, x ∈ s.stk ↔ s.onS x = true
  son : ∀ x, s.onS x = true → s.ord x ≠ 0
  srt : s.stk.Pairwise (fun x y => s.ord x < s.ord y)
  gry : ∀ g, g ∈ G → s.onS g = true
  blk : ∀ x y, s.ord x ≠ 0 → x ∉ G → E x y → s.ord y ≠ 0
  fin : ∀ x y, s.ord x ≠ 0 → s.onS x = false → E x y → s.ord y ≠ 0 ∧ s.onS y = false
  cyc : ∀ x, s.ord x ≠ 0 → s.onS x = false → (s.cyc x = true ↔ OnCyc E x)
  fwd : ∀ g, g ∈ G → ∀ y, s.onS y = true → s.ord g ≤ s.ord y → Reach E g y
  bck : ∀ y, s.onS y = true → ∃ g, g ∈ G ∧ s.ord g ≤ s.ord y ∧ Reach E y g
  lt : ∀ x, s.ord x ≠ 0 → x < n

structure Ext (s s' : TS) : Prop where
  old : ∀ x, s.ord x ≠ 0 → s'.ord x = s.ord x ∧ s'.low x = s.low x ∧ s'.onS x = s.onS x
  stp : s.step ≤ s'.step
  new : ∀ x, s.ord x = 0 → s'.ord x ≠ 0 → s.step < s'.ord x

/-- What a visit leaves. -/
structure TPost (E : Nat → Nat → Prop) (n : Nat) (G : List Nat) (v : Nat) (s s' : TS) : Prop where
  inv : TInv E n G s'
  ext : Ext s s'
  vo : s'.ord v = s.step + 1
  le : s'.low v ≤ s'.ord v
  lo : ∀ y w, s.ord y = 0 → s'.onS y = true → E y w → s'.onS w = true → s'.low v ≤ s'.ord w
  reach : s'.onS v = true → ∃ w, s'.onS w = true ∧ s'.ord w = s'.low v ∧ Reach E v w
  off : s'.onS v = false → s'.low v = s'.ord v

/-- In the midst of a visit: the successors in D are done. -/
structure TLoop (E : Nat → Nat → Prop) (n : Nat) (G : List Nat) (v : Nat) (s : TS) (D : List Nat) (c : TS) : Prop where
  pre : TInv E n G s
  wht : s.ord v = 0
  inv : TInv E n (v :: G) c
  ext : Ext s c
  vo : c.ord v = s.step + 1
  proc : ∀ w, w ∈ D → c.ord w ≠ 0
  le : c.low v ≤ c.ord v
  lo : ∀ y w, s.ord y = 0 → y ≠ v → c.onS y = true → E y w → c.onS w = true → c.low v ≤ c.ord w
  lod : ∀ w, w ∈ D → c.onS w = true → c.low v ≤ c.ord w
  reach : ∃ w, c.onS w = true ∧ c.ord w = c.low v ∧ Reach E v w

def tStart (v : Nat) (s : TS) : TS := ⟨updN s.ord v (s.step + 1), updN s.low v (s.step + 1), updB s.onS v true, s.cyc, s.stk ++ [v], s.step + 1⟩

variable {E : Nat → Nat → Prop} {n : Nat} {G : List Nat} {v : Nat} {s c d : TS} {D : List Nat}

theorem TLoop.start (h : TInv E n G s) (hw : s.ord v = 0) (hv : v < n) (hr : ∀ g, g ∈ G → Reach E g v) : TLoop E n G v s [] (tStart v s) := by
  have ne : ∀ x, s.ord x ≠ 0 → x ≠ v := fun x hx e => hx (e ▸ hw)
  have ho : ∀ x, x ≠ v → (tStart v s).ord x = s.ord x := fun x hx => updN_other _ _ hx
  have hs : ∀ x, x ≠ v → (tStart v s).onS x = s.onS x := fun x hx => updB_other _ _ hx
  have hov : (tStart v s).ord v = s.step + 1 := updN_same _ _ _
  have hsv : (tStart v s).onS v = true := updB_same _ _ _
  have hlv : (tStart v s).low v = s.step + 1 := updN_same _ _ _
  have sv : s.onS v = false := by
    cases hh : s.onS v
    · rfl
    · exact absurd hw (h.son v hh)
  refine ⟨h, hw, ⟨?_, ?_, ?_, ?_, ?_, ?_, ?_, ?_, ?_, ?_, ?_, ?_⟩, ⟨?_, Nat.le_succ _, ?_⟩, hov, fun w hw => absurd hw (by simp), by rw [hlv, hov]; exact Nat.le_refl _, ?_, fun w hw => absurd hw (by simp), ⟨v, hsv, by rw [hov, hlv], .refl _⟩⟩
  · intro x
    by_cases e : x = v
    · subst e; rw [hov]; exact Nat.le_refl _
    · rw [ho x e]; exact Nat.le_succ_of_le (h.bnd x)
  · intro x y hx hxy
    by_cases e : x = v
    · subst e
      by_cases e2 : y = x
      · exact e2.symm
      · rw [hov, ho y e2] at hxy
        have := h.bnd y
        omega
    · rw [ho x e] at hx hxy
      by_cases e2 : y = v
      · subst e2
        rw [hov] at hxy
        have := h.bnd x
        omega
      · rw [ho y e2] at hxy
        exact h.inj x y hx hxy
  · intro x
    show x ∈ s.stk ++ [v] ↔ _
    by_cases e : x = v
    · subst e; simp [hsv]
    · rw [hs x e, ← h.mem x]; simp [e]
  · intro x hx
    by_cases e : x = v
    · subst e; rw [hov]; omega
    · rw [hs x e] at hx; rw [ho x e]; exact h.son x hx
  · show (s.stk ++ [v]).Pairwise _
    rw [List.pairwise_append]
    refine ⟨?_, by simp, ?_⟩
    · refine List.Pairwise.imp_of_mem (fun {x y} hx hy hxy => ?_) h.srt
      have e1 := ne x (h.son x ((h.mem x).1 hx))
      have e2 := ne y (h.son y ((h.mem y).1 hy))
      rw [ho x e1, ho y e2]; exact hxy
    · intro x hx y hy
      have e1 := ne x (h.son x ((h.mem x).1 hx))
      simp at hy
      subst hy
      rw [ho x e1, hov]
      exact Nat.lt_succ_of_le (h.bnd x)
  · intro g hg
    rcases List.mem_cons.1 hg with rfl | hg
    · exact hsv
    · rw [hs g (ne g (h.son g (h.gry g hg)))]; exact h.gry g hg
  · intro x y hx hxG hE
    have e1 : x ≠ v := fun e => hxG (by simp [e])
    have e2 : x ∉ G := fun e => hxG (by simp [e])
    rw [ho x e1] at hx
    have := h.blk x y hx e2 hE
    rw [ho y (ne y this)]; exact this
  · intro x y hx hxs hE
    have e1 : x ≠ v := fun e => by subst e; rw [hsv] at hxs; cases hxs
    rw [ho x e1] at hx
    rw [hs x e1] at hxs
    obtain ⟨g1, g2⟩ := h.fin x y hx hxs hE
    rw [ho y (ne y g1), hs y (ne y g1)]
    exact ⟨g1, g2⟩
  · intro x hx hxs
    have e1 : x ≠ v := fun e => by subst e; rw [hsv] at hxs; cases hxs
    rw [ho x e1] at hx
    rw [hs x e1] at hxs
    exact h.cyc x hx hxs
  · intro g hg y hy hgy
    by_cases ey : y = v
    · subst ey
      rcases List.mem_cons.1 hg with rfl | hg
      · exact .refl _
      · exact hr g hg
    · rw [hs y ey] at hy
      rw [ho y ey] at hgy
      rcases List.mem_cons.1 hg with rfl | hg
      · rw [hov] at hgy
        have := h.bnd y
        omega
      · rw [ho g (ne g (h.son g (h.gry g hg)))] at hgy
        exact h.fwd g hg y hy hgy
  · intro y hy
    by_cases ey : y = v
    · subst ey; exact ⟨y, by simp, Nat.le_refl _, .refl _⟩
    · rw [hs y ey] at hy
      obtain ⟨g, g1, g2, g3⟩ := h.bck y hy
      refine ⟨g, by simp [g1], ?_, g3⟩
      rw [ho y ey, ho g (ne g (h.son g (h.gry g g1)))]; exact g2
  · intro x hx
    by_cases e : x = v
    · subst e; exact hv
    · rw [ho x e] at hx; exact h.lt x hx
  · intro x hx
    have e := ne x hx
    exact ⟨ho x e, updN_other _ _ e, hs x e⟩
  · intro x hx hx'
    by_cases e : x = v
    · subst e; rw [hov]; omega
    · rw [ho x e] at hx'; exact absurd hx hx'
  · intro y w hy hne hys
    rw [hs y hne] at hys
    exact absurd hy (h.son y hys)

def tLow (v k : Nat) (c : TS) : TS := ⟨c.ord, updN c.low v k, c.onS, c.cyc, c.stk, c.step⟩

theorem TInv.low {G : List Nat} (h : TInv E n G c) (v k : Nat) : TInv E n G (tLow v k c) := ⟨h.bnd, h.inj, h.mem, h.son, h.srt, h.gry, h.blk, h.fin, h.cyc, h.fwd, h.bck, h.lt⟩

theorem TLoop.gray (h : TLoop E n G v s D c) {g : Nat} (hg : g ∈ G) : s.ord g ≠ 0 := h.pre.son g (h.pre.gry g hg)

/-- A successor that was not seen: the visit has come back. -/
theorem TLoop.tree (h : TLoop E n G v s D c) {w : Nat} (hE : E v w) (hw : c.ord w = 0) (p : TPost E n (v :: G) w c d) : TLoop E n G v s (D ++ [w]) (tLow v (min (d.low v) (d.low w)) d) := by
  have cv : c.ord v ≠ 0 := by rw [h.vo]; omega
  obtain ⟨dv1, dv2, dv3⟩ := p.ext.old v cv
  have hle : (tLow v (min (d.low v) (d.low w)) d).low v = min (d.low v) (d.low w) := updN_same _ _ _
  refine ⟨h.pre, h.wht, p.inv.low _ _, ⟨?_, Nat.le_trans h.ext.stp p.ext.stp, ?_⟩, dv1.trans h.vo, ?_, ?_, ?_, ?_, ?_⟩
  · intro x hx
    obtain ⟨a1, a2, a3⟩ := h.ext.old x hx
    obtain ⟨b1, b2, b3⟩ := p.ext.old x (by rw [a1]; exact hx)
    have e : x ≠ v := fun e => hx (e ▸ h.wht)
    refine ⟨b1.trans a1, ?_, b3.trans a3⟩
    show updN d.low v _ x = _
    rw [updN_other _ _ e, b2, a2]
  · intro x hx hx'
    by_cases e : c.ord x = 0
    · exact Nat.lt_of_le_of_lt h.ext.stp (p.ext.new x e hx')
    · show s.step < d.ord x
      rw [(p.ext.old x e).1]
      exact h.ext.new x hx e
  · intro x hx
    show d.ord x ≠ 0
    rcases List.mem_append.1 hx with hx | hx
    · rw [(p.ext.old x (h.proc x hx)).1]; exact h.proc x hx
    · simp at hx; subst hx; rw [p.vo]; omega
  · rw [hle]
    show _ ≤ d.ord v
    rw [dv1]
    exact Nat.le_trans (Nat.min_le_left _ _) (by rw [dv2]; exact h.le)
  · intro y x hy hne hys hE' hxs
    rw [hle]
    show _ ≤ d.ord x
    by_cases e : c.ord y = 0
    · exact Nat.le_trans (Nat.min_le_right _ _) (p.lo y x e hys hE' hxs)
    · have hys' : c.onS y = true := by rw [← (p.ext.old y e).2.2]; exact hys
      have hyG : y ∉ v :: G := fun hm => by
        rcases List.mem_cons.1 hm with rfl | hm
        · exact hne rfl
        · exact h.gray hm hy
      have hx := h.inv.blk y x e hyG hE'
      have hxs' : c.onS x = true := by rw [← (p.ext.old x hx).2.2]; exact hxs
      have := h.lo y x hy hne hys' hE' hxs'
      rw [(p.ext.old x hx).1]
      exact Nat.le_trans (Nat.min_le_left _ _) (by rw [dv2]; exact this)
  · intro x hx hxs
    rw [hle]
    show _ ≤ d.ord x
    rcases List.mem_append.1 hx with hx | hx
    · have hxv := h.proc x hx
      have hxs' : c.onS x = true := by rw [← (p.ext.old x hxv).2.2]; exact hxs
      have := h.lod x hx hxs'
      rw [(p.ext.old x hxv).1]
      exact Nat.le_trans (Nat.min_le_left _ _) (by rw [dv2]; exact this)
    · simp at hx; subst hx; exact Nat.le_trans (Nat.min_le_right _ _) p.le
  · rw [hle]
    show ∃ x, d.onS x = true ∧ d.ord x = _ ∧ _
    by_cases hm : d.low w < d.low v
    · rw [Nat.min_eq_right (Nat.le_of_lt hm)]
      cases hws : d.onS w
      · have := p.off hws
        have h1 := h.le
        rw [this, p.vo, dv2] at hm
        have h2 := h.inv.bnd v
        omega
      · obtain ⟨x, g1, g2, g3⟩ := p.reach hws
        exact ⟨x, g1, g2, (Reach.one hE).trans g3⟩
    · rw [Nat.min_eq_left (by omega), dv2]
      obtain ⟨x, g1, g2, g3⟩ := h.reach
      have hx := h.inv.son x g1
      obtain ⟨b1, b2, b3⟩ := p.ext.old x hx
      exact ⟨x, b3.trans g1, b1.trans g2, g3⟩

/-- A successor on the stack. -/
theorem TLoop.back (h : TLoop E n G v s D c) {w : Nat} (hE : E v w) (hw : c.onS w = true) : TLoop E n G v s (D ++ [w]) (tLow v (min (c.low v) (c.ord w)) c) := by
  have hle : (tLow v (min (c.low v) (c.ord w)) c).low v = min (c.low v) (c.ord w) := updN_same _ _ _
  refine ⟨h.pre, h.wht, h.inv.low _ _, ⟨?_, h.ext.stp, h.ext.new⟩, h.vo, ?_, ?_, ?_, ?_, ?_⟩
  · intro x hx
    obtain ⟨a1, a2, a3⟩ := h.ext.old x hx
    have e : x ≠ v := fun e => hx (e ▸ h.wht)
    refine ⟨a1, ?_, a3⟩
    show updN c.low v _ x = _
    rw [updN_other _ _ e, a2]
  · intro x hx
    rcases List.mem_append.1 hx with hx | hx
    · exact h.proc x hx
    · simp at hx; subst hx; exact h.inv.son _ hw
  · rw [hle]; exact Nat.le_trans (Nat.min_le_left _ _) h.le
  · intro y x hy hne hys hE' hxs
    rw [hle]; exact Nat.le_trans (Nat.min_le_left _ _) (h.lo y x hy hne hys hE' hxs)
  · intro x hx hxs
    rw [hle]
    rcases List.mem_append.1 hx with hx | hx
    · exact Nat.le_trans (Nat.min_le_left _ _) (h.lod x hx hxs)
    · simp at hx; subst hx; exact Nat.min_le_right _ _
  · rw [hle]
    by_cases hm : c.ord w < c.low v
    · rw [Nat.min_eq_right (Nat.le_of_lt hm)]
      exact ⟨w, hw, rfl, .one hE⟩
    · rw [Nat.min_eq_left (by omega)]
      exact h.reach

/-- A successor that is done with. -/
theorem TLoop.cross (h : TLoop E n G v s D c) {w : Nat} (hw : c.ord w ≠ 0) (hs : c.onS w = false) : TLoop E n G v s (D ++ [w]) c := by
  refine ⟨h.pre, h.wht, h.inv, h.ext, h.vo, ?_, h.le, h.lo, ?_, h.reach⟩
  · intro x hx
    rcases List.mem_append.1 hx with hx | hx
    · exact h.proc x hx
    · simp at hx; subst hx; exact hw
  · intro x hx hxs
    rcases List.mem_append.1 hx with hx | hx
    · exact h.lod x hx hxs
    · simp at hx; subst hx; rw [hs] at hxs; cases hxs

/-- The visit is over, the node's component is not. -/
theorem TLoop.leave (h : TLoop E n G v s D c) (hD : ∀ w, E v w → w ∈ D) (hne : c.low v ≠ c.ord v) : TPost E n G v s c := by
  have hlt : c.low v < c.ord v := by have := h.le; omega
  have hsv : c.onS v = true := h.inv.gry v (by simp)
  refine ⟨⟨h.inv.bnd, h.inv.inj, h.inv.mem, h.inv.son, h.inv.srt, fun g hg => h.inv.gry g (by simp [hg]), ?_, h.inv.fin, h.inv.cyc, fun g hg => h.inv.fwd g (by simp [hg]), ?_, h.inv.lt⟩, h.ext, h.vo, h.le, ?_, fun _ => h.reach, fun e => by rw [hsv] at e; cases e⟩
  · intro x y hx hxG hE
    by_cases e : x = v
    · subst e; exact h.proc y (hD y hE)
    · exact h.inv.blk x y hx (by simp [e, hxG]) hE
  · intro y hy
    obtain ⟨g, g1, g2, g3⟩ := h.inv.bck y hy
    rcases List.mem_cons.1 g1 with rfl | g1
    · obtain ⟨w, w1, w2, w3⟩ := h.reach
      obtain ⟨g', k1, k2, k3⟩ := h.inv.bck w w1
      rcases List.mem_cons.1 k1 with rfl | k1
      · omega
      · exact ⟨g', k1, by omega, g3.trans (w3.trans k3)⟩
    · exact ⟨g, g1, g2, g3⟩
  · intro y w hy hys hE hws
    by_cases e : y = v
    · subst e; exact h.lod w (hD w hE) hws
    · exact h.lo y w hy e hys hE hws

/-- The stack from the node up goes. -/
def tPop (A C : List Nat) (c : TS) : TS := ⟨c.ord, c.low, fun x => if x ∈ C then false else c.onS x, fun x => if x ∈ C then decide (1 < C.length) else c.cyc x, A, c.step⟩

theorem TLoop.pop (h : TLoop E n G v s D c) (hD : ∀ w, E v w → w ∈ D) (heq : c.low v = c.ord v) {A B : List Nat} (hst : c.stk = A ++ v :: B) : TPost E n G v s (tPop A (v :: B) c) := by
  have hsv : c.onS v = true := h.inv.gry v (by simp)
  have hsrt := h.inv.srt
  rw [hst, List.pairwise_append] at hsrt
  obtain ⟨sA, sC, sAC⟩ := hsrt
  have hA : ∀ x, x ∈ A → c.ord x < c.ord v := fun x hx => sAC x hx v (by simp)
  have hB : ∀ x, x ∈ v :: B → c.ord v ≤ c.ord x := fun x hx => by
    rcases List.mem_cons.1 hx with rfl | hx
    · exact Nat.le_refl _
    · exact Nat.le_of_lt ((List.pairwise_cons.1 sC).1 x hx)
  have hmem : ∀ x, c.onS x = true ↔ x ∈ A ∨ x ∈ v :: B := fun x => by rw [← h.inv.mem x, hst, List.mem_append]
  have hC : ∀ x, c.onS x = true → c.ord v ≤ c.ord x → x ∈ v :: B := fun x hx hle => by
    rcases (hmem x).1 hx with h1 | h1
    · have := hA x h1; omega
    · exact h1
  have hon : ∀ x, x ∈ v :: B → c.onS x = true := fun x hx => (hmem x).2 (.inr hx)
  have hGo : ∀ g, g ∈ G → c.ord g < c.ord v := fun g hg => by
    have hg0 := h.gray hg
    rw [(h.ext.old g hg0).1, h.vo]
    exact Nat.lt_succ_of_le (h.pre.bnd g)
  have hGC : ∀ g, g ∈ G → g ∉ v :: B := fun g hg hm => by have := hB g hm; have := hGo g hg; omega
  have hwhite : ∀ x, c.ord v ≤ c.ord x → s.ord x = 0 := fun x hx => by
    by_cases e : s.ord x = 0
    · exact e
    · have h1 := (h.ext.old x e).1
      have h2 := h.pre.bnd x
      have h3 := h.vo
      omega
  have hedge : ∀ x y, x ∈ v :: B → E x y → c.ord y ≠ 0 ∧ (c.onS y = true → y ∈ v :: B) := fun x y hx hE => by
    by_cases e : x = v
    · subst e
      exact ⟨h.proc y (hD y hE), fun hy => hC y hy (by have := h.lod y (hD y hE) hy; omega)⟩
    · have hxo := hB x hx
      have hx0 : c.ord x ≠ 0 := h.inv.son x (hon x hx)
      have hxG : x ∉ v :: G := fun hm => by
        rcases List.mem_cons.1 hm with rfl | hm
        · exact e rfl
        · exact hGC x hm hx
      refine ⟨h.inv.blk x y hx0 hxG hE, fun hy => hC y hy ?_⟩
      have := h.lo x y (hwhite x hxo) e (hon x hx) hE hy
      omega
  have hcl : ∀ x y, (x ∈ v :: B ∨ (c.ord x ≠ 0 ∧ c.onS x = false)) → E x y → (y ∈ v :: B ∨ (c.ord y ≠ 0 ∧ c.onS y = false)) := fun x y hx hE => by
    rcases hx with hx | ⟨hx, hxs⟩
    · obtain ⟨h1, h2⟩ := hedge x y hx hE
      cases hys : c.onS y
      · exact .inr ⟨h1, rfl⟩
      · exact .inl (h2 hys)
    · exact .inr (h.inv.fin x y hx hxs hE)
  have hto : ∀ y, y ∈ v :: B → Reach E v y := fun y hy => h.inv.fwd v (by simp) y (hon y hy) (hB y hy)
  have hfrom : ∀ y, y ∈ v :: B → Reach E y v := fun y hy => by
    obtain ⟨g, g1, g2, g3⟩ := h.inv.bck y (hon y hy)
    rcases List.mem_cons.1 g1 with rfl | g1
    · exact g3
    · exfalso
      rcases g3.closed hcl (.inl hy) with h1 | ⟨_, h1⟩
      · exact hGC g g1 h1
      · rw [h.inv.gry g (by simp [g1])] at h1; cases h1
  have hos : ∀ x, x ∉ v :: B → (tPop A (v :: B) c).onS x = c.onS x := fun x hx => if_neg hx
  have hof : ∀ x, x ∈ v :: B → (tPop A (v :: B) c).onS x = false := fun x hx => if_pos hx
  have hvo : (tPop A (v :: B) c).onS v = false := hof v (by simp)
  have hnd : (v :: B).Pairwise (fun x y => x ≠ y) := List.Pairwise.imp_of_mem (fun {x y} _ _ hxy e => by subst e; omega) sC
  refine ⟨⟨h.inv.bnd, h.inv.inj, ?_, ?_, ?_, ?_, ?_, ?_, ?_, ?_, ?_, h.inv.lt⟩, ⟨?_, h.ext.stp, h.ext.new⟩, h.vo, h.le, ?_, fun e => (by rw [hvo] at e; cases e), fun _ => heq⟩
  · intro x
    show x ∈ A ↔ _
    by_cases hx : x ∈ v :: B
    · rw [hof x hx]
      refine ⟨fun hxa => ?_, fun e => by cases e⟩
      have := hA x hxa; have := hB x hx; omega
    · rw [hos x hx, hmem x]
      exact ⟨.inl, fun hh => hh.resolve_right hx⟩
  · intro x hx
    by_cases hxC : x ∈ v :: B
    · rw [hof x hxC] at hx; cases hx
    · rw [hos x hxC] at hx; exact h.inv.son x hx
  · exact sA
  · intro g hg
    rw [hos g (hGC g hg)]; exact h.inv.gry g (by simp [hg])
  · intro x y hx hxG hE
    by_cases e : x = v
    · subst e; exact h.proc y (hD y hE)
    · exact h.inv.blk x y hx (by simp [e, hxG]) hE
  · intro x y hx hxs hE
    by_cases hxC : x ∈ v :: B
    · obtain ⟨h1, h2⟩ := hedge x y hxC hE
      refine ⟨h1, ?_⟩
      by_cases hyC : y ∈ v :: B
      · exact hof y hyC
      · rw [hos y hyC]
        cases hys : c.onS y
        · rfl
        · exact absurd (h2 hys) hyC
    · rw [hos x hxC] at hxs
      obtain ⟨h1, h2⟩ := h.inv.fin x y hx hxs hE
      refine ⟨h1, ?_⟩
      by_cases hyC : y ∈ v :: B
      · exact hof y hyC
      · rw [hos y hyC]; exact h2
  · intro x hx hxs
    by_cases hxC : x ∈ v :: B
    · have e : (tPop A (v :: B) c).cyc x = decide (1 < (v :: B).length) := if_pos hxC
      rw [e, decide_eq_true_eq]
      constructor
      · intro hlen
        have hother : ∃ y, y ∈ v :: B ∧ y ≠ x := by
          cases B with
          | nil => simp at hlen
          | cons b bs =>
            by_cases ex : x = v
            · exact ⟨b, by simp, fun eb => (List.pairwise_cons.1 hnd).1 b (by simp) (by rw [← ex, eb])⟩
            · exact ⟨v, by simp, fun ev => ex ev.symm⟩
        obtain ⟨y, hy, hyx⟩ := hother
        exact ⟨y, hyx, (hfrom x hxC).trans (hto y hy), (hfrom y hy).trans (hto x hxC)⟩
      · rintro ⟨w, hwx, h1, h2⟩
        have hw : w ∈ v :: B := by
          rcases h1.closed hcl (.inl hxC) with h3 | h3
          · exact h3
          · exfalso
            have := h2.closed (C := fun x => c.ord x ≠ 0 ∧ c.onS x = false) (fun a b ha hE => h.inv.fin a b ha.1 ha.2 hE) h3
            rw [hon x hxC] at this
            cases this.2
        cases B with
        | nil => simp at hw hxC; exact absurd (hw.trans hxC.symm) hwx
        | cons b bs => simp
    · rw [hos x hxC] at hxs
      have e : (tPop A (v :: B) c).cyc x = c.cyc x := if_neg hxC
      rw [e]
      exact h.inv.cyc x hx hxs
  · intro g hg y hy hgy
    by_cases hyC : y ∈ v :: B
    · rw [hof y hyC] at hy; cases hy
    · rw [hos y hyC] at hy; exact h.inv.fwd g (by simp [hg]) y hy hgy
  · intro y hy
    by_cases hyC : y ∈ v :: B
    · rw [hof y hyC] at hy; cases hy
    · rw [hos y hyC] at hy
      obtain ⟨g, g1, g2, g3⟩ := h.inv.bck y hy
      have hyv : c.ord y < c.ord v := by
        rcases (hmem y).1 hy with h1 | h1
        · exact hA y h1
        · exact absurd h1 hyC
      rcases List.mem_cons.1 g1 with rfl | g1
      · omega
      · exact ⟨g, g1, g2, g3⟩
  · intro x hx
    obtain ⟨a1, a2, a3⟩ := h.ext.old x hx
    refine ⟨a1, a2, ?_⟩
    have hxC : x ∉ v :: B := fun hm => by
      have := hwhite x (hB x hm)
      exact hx this
    rw [hos x hxC]; exact a3
  · intro y w hy hys
    by_cases hyC : y ∈ v :: B
    · rw [hof y hyC] at hys; cases hys
    · rw [hos y hyC] at hys
      exfalso
      have h1 : c.ord y < c.ord v := by
        rcases (hmem y).1 hys with h1 | h1
        · exact hA y h1
        · exact absurd h1 hyC
      have h2 := h.ext.new y hy (h.inv.son y hys)
      have h3 := h.vo
      omega

/-- All is done. -/
theorem TInv.done (h : TInv E n [] s) (hall : ∀ x, x < n → s.ord x ≠ 0) {x : Nat} (hx : x < n) : s.cyc x = true ↔ OnCyc E x := by
  refine h.cyc x (hall x hx) ?_
  cases hs : s.onS x
  · rfl
  · obtain ⟨g, hg, _⟩ := h.bck x hs
    cases hg

theorem TInv.first (n : Nat) : TInv E n [] ⟨fun _ => 0, fun _ => 0, fun _ => false, fun _ => false, [], 0⟩ :=
  ⟨fun _ => Nat.le_refl _, fun _ _ h => absurd rfl h, fun _ => (by simp), fun _ h => (by cases h), (by simp), fun _ h => (by cases h), fun _ _ h => absurd rfl h, fun _ _ h => absurd rfl h, fun _ h => absurd rfl h, fun _ h => (by cases h), fun _ h => (by cases h), fun _ h => absurd rfl h⟩
end Go.Proofs.Qxb6602460a
