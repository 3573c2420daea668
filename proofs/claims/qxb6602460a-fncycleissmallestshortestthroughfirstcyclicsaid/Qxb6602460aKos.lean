import Derived.Test.Qxb6602460aTarjan
namespace Go.Proofs.Qxb6602460a

/-- Each is reached from the other. -/
def Eqv (E : Nat → Nat → Prop) (x y : Nat) : Prop := Reach E x y ∧ Reach E y x

theorem Eqv.refl {E : Nat → Nat → Prop} (x : Nat) : Eqv E x x := ⟨.refl _, .refl _⟩
theorem Eqv.symm {E : Nat → Nat → Prop} {x y : Nat} (h : Eqv E x y) : Eqv E y x := ⟨h.2, h.1⟩
theorem Eqv.trans {E : Nat → Nat → Prop} {x y z : Nat} (h : Eqv E x y) (h' : Eqv E y z) : Eqv E x z := ⟨h.1.trans h'.1, h'.2.trans h.2⟩

def Before (f : List Nat) (r m : Nat) : Prop := ∃ A B, f = A ++ B ∧ r ∈ A ∧ m ∈ B

theorem Before.more {f : List Nat} {r m : Nat} (h : Before f r m) (t : List Nat) : Before (f ++ t) r m := by
  obtain ⟨A, B, rfl, h1, h2⟩ := h
  exact ⟨A, B ++ t, by rw [List.append_assoc], h1, by simp [h2]⟩

/-- The edges that the rows give. -/
def EO (out : Nat → List Nat) (v w : Nat) : Prop := w ∈ out v

/-! ### The first pass -/
structure KS where
  vis : Nat → Bool
  fin : List Nat
  sn : List Nat
  sx : List Nat

structure KInv (out : Nat → List Nat) (n : Nat) (s : KS) : Prop where
  len : s.sn.length = s.sx.length
  vis : ∀ x, s.vis x = true ↔ x ∈ s.fin ∨ x ∈ s.sn
  nd : (s.fin ++ s.sn).Nodup
  lt : ∀ x, s.vis x = true → x < n
  chain : s.sn.Pairwise (Reach (EO out))
  nxt : ∀ i, i < s.sn.length → ∀ k, k < s.sx.getD i 0 → k < (out (s.sn.getD i 0)).length → s.vis ((out (s.sn.getD i 0)).getD k 0) = true
  blk : ∀ u y, u ∈ s.fin → EO out u y → s.vis y = true
  jj : ∀ u r, u ∈ s.fin → Reach (EO out) u r → Reach (EO out) r u ∨ (∃ m, Eqv (EO out) u m ∧ m ∉ s.fin) ∨ (∃ m, Eqv (EO out) u m ∧ Before s.fin r m)

variable {out : Nat → List Nat} {n : Nat} {s : KS}

theorem KInv.first (out : Nat → List Nat) (n : Nat) : KInv out n ⟨fun _ => false, [], [], []⟩ :=
  ⟨rfl, fun x => (by simp), (by simp), fun x h => (by cases h), (by simp), fun i h => absurd h (Nat.not_lt_zero _), fun u y h => (by cases h), fun u r h => (by cases h)⟩

theorem getD_append_left {l t : List Nat} {i : Nat} (h : i < l.length) : (l ++ t).getD i 0 = l.getD i 0 := by
  simp [List.getD_eq_getElem?_getD, List.getElem?_append_left h]
theorem getD_append_last (l : List Nat) (x : Nat) : (l ++ [x]).getD l.length 0 = x := by
  simp [List.getD_eq_getElem?_getD]

/-- A node is laid on the stack. -/
theorem KInv.push (h : KInv out n s) {w : Nat} (hw : s.vis w = false) (hlt : w < n) (hr : ∀ x, x ∈ s.sn → Reach (EO out) x w) : KInv out n ⟨updB s.vis w true, s.fin, s.sn ++ [w], s.sx ++ [0]⟩ := by
  have hwn : w ∉ s.fin ∧ w ∉ s.sn := by
    constructor
    · intro hm; have := (h.vis w).2 (.inl hm); rw [hw] at this; cases this
    · intro hm; have := (h.vis w).2 (.inr hm); rw [hw] at this; cases this
  have hmono : ∀ x, s.vis x = true → updB s.vis w true x = true := fun x hx => by
    by_cases e : x = w
    · subst e; exact updB_same _ _ _
    · rw [updB_other _ _ e]; exact hx
  refine ⟨by simp [h.len], ?_, ?_, ?_, ?_, ?_, fun u y hu hE => hmono y (h.blk u y hu hE), h.jj⟩
  · intro x
    show updB s.vis w true x = true ↔ x ∈ s.fin ∨ x ∈ s.sn ++ [w]
    by_cases e : x = w
    · subst e; simp [updB_same]
    · rw [updB_other _ _ e, h.vis x]; simp [e]
  · rw [← List.append_assoc, List.nodup_append]
    refine ⟨h.nd, by simp, ?_⟩
    intro x hx y hy
    simp at hy
    subst hy
    intro e
    subst e
    rcases List.mem_append.1 hx with h1 | h1
    · exact hwn.1 h1
    · exact hwn.2 h1
  · intro x hx
    show x < n
    by_cases e : x = w
    · subst e; exact hlt
    · exact h.lt x (by rw [← updB_other s.vis true e]; exact hx)
  · rw [List.pairwise_append]
    exact ⟨h.chain, by simp, fun x hx y hy => by simp at hy; subst hy; exact hr x hx⟩
  · intro i hi k hk hk2
    simp at hi
    by_cases e : i = s.sn.length
    · subst e
      rw [h.len, getD_append_last] at hk
      omega
    · have hi' : i < s.sn.length := by omega
      rw [getD_append_left (by rw [← h.len]; exact hi')] at hk
      rw [getD_append_left hi'] at hk2 ⊢
      exact hmono _ (h.nxt i hi' k hk hk2)

/-- The top's next successor has been looked at. -/
theorem KInv.next {sn sx : List Nat} {v k : Nat} (h : KInv out n ⟨s.vis, s.fin, sn ++ [v], sx ++ [k]⟩) (hv : s.vis ((out v).getD k 0) = true) : KInv out n ⟨s.vis, s.fin, sn ++ [v], sx ++ [k + 1]⟩ := by
  have hl : sn.length = sx.length := by have := h.len; simpa using this
  refine ⟨by simp [hl], h.vis, h.nd, h.lt, h.chain, ?_, h.blk, h.jj⟩
  intro i hi q hq hq2
  by_cases e : i = sn.length
  · subst e
    rw [hl, getD_append_last] at hq
    rw [getD_append_last] at hq2 ⊢
    by_cases eq : q = k
    · subst eq; exact hv
    · have := h.nxt sn.length (by simp) q (by simp only; rw [hl, getD_append_last]; omega) (by simp only; rw [getD_append_last]; exact hq2)
      simp only at this
      rw [getD_append_last] at this
      exact this
  · have hi' : i < sn.length := by simp at hi; omega
    have := h.nxt i (by simp; omega) q (by simp only; rw [getD_append_left (by omega)]; rw [getD_append_left (by omega)] at hq; exact hq) hq2
    exact this

/-- The top has no more successors: it is finished. -/
theorem KInv.pop {sn sx : List Nat} {v k : Nat} (h : KInv out n ⟨s.vis, s.fin, sn ++ [v], sx ++ [k]⟩) (hk : (out v).length ≤ k) : KInv out n ⟨s.vis, s.fin ++ [v], sn, sx⟩ := by
  have hl : sn.length = sx.length := by have := h.len; simpa using this
  have hvis : s.vis v = true := (h.vis v).2 (.inr (by simp))
  have hsucc : ∀ y, EO out v y → s.vis y = true := by
    intro y hy
    obtain ⟨q, hq, rfl⟩ := List.getElem_of_mem hy
    have := h.nxt sn.length (by simp) q (by simp only; rw [hl, getD_append_last]; omega) (by simp only; rw [getD_append_last]; exact hq)
    simp only at this
    rw [getD_append_last, List.getD_eq_getElem?_getD, List.getElem?_eq_getElem hq] at this
    exact this
  have hch := h.chain
  rw [List.pairwise_append] at hch
  have hto : ∀ x, x ∈ sn → Reach (EO out) x v := fun x hx => hch.2.2 x hx v (by simp)
  have hnd := h.nd
  simp only at hnd
  have hnd2 : (s.fin ++ [v] ++ sn).Nodup := by
    refine (List.Perm.nodup_iff ?_).1 hnd
    rw [List.append_assoc]
    exact List.Perm.append_left _ (List.perm_append_comm)
  have hvf : v ∉ s.fin ∧ v ∉ sn := by
    rw [List.nodup_append] at hnd
    refine ⟨fun hm => hnd.2.2 v hm v (by simp) rfl, fun hm => ?_⟩
    have := hnd.2.1
    rw [List.nodup_append] at this
    exact this.2.2 v hm v (by simp) rfl
  have hsn : ∀ x, x ∈ sn → x ∉ s.fin ++ [v] := by
    intro x hx hm
    rw [List.nodup_append] at hnd2
    exact hnd2.2.2 x hm x hx rfl
  have key : ∀ r, Reach (EO out) v r → Reach (EO out) r v ∨ (∃ m, Eqv (EO out) v m ∧ m ∉ s.fin ++ [v]) ∨ (∃ m, Eqv (EO out) v m ∧ Before (s.fin ++ [v]) r m) := by
    intro r hr
    cases hvr : s.vis r
    · obtain ⟨x, y, g1, g2, g3, g4, g5⟩ := hr.exit (C := fun x => s.vis x = true) hvis (by simp only [hvr]; decide)
      rcases (h.vis x).1 g2 with hx | hx
      · exact absurd (h.blk x y hx g3) g4
      · rcases List.mem_append.1 hx with hx | hx
        · exact .inr (.inl ⟨x, ⟨g1, hto x hx⟩, hsn x hx⟩)
        · simp at hx
          subst hx
          exact absurd (hsucc y g3) g4
    · rcases (h.vis r).1 hvr with hx | hx
      · exact .inr (.inr ⟨v, .refl _, s.fin, [v], rfl, hx, by simp⟩)
      · rcases List.mem_append.1 hx with hx | hx
        · exact .inl (hto r hx)
        · simp at hx; subst hx; exact .inl (.refl _)
  have keyv : ∀ u r, Eqv (EO out) u v → Reach (EO out) u r → Reach (EO out) r u ∨ (∃ m, Eqv (EO out) u m ∧ m ∉ s.fin ++ [v]) ∨ (∃ m, Eqv (EO out) u m ∧ Before (s.fin ++ [v]) r m) := by
    intro u r hu hr
    rcases key r (hu.2.trans hr) with h1 | ⟨m, h1, h2⟩ | ⟨m, h1, h2⟩
    · exact .inl (h1.trans hu.2)
    · exact .inr (.inl ⟨m, hu.trans h1, h2⟩)
    · exact .inr (.inr ⟨m, hu.trans h1, h2⟩)
  refine ⟨hl, ?_, hnd2, h.lt, hch.1, ?_, ?_, ?_⟩
  · intro x
    show s.vis x = true ↔ x ∈ s.fin ++ [v] ∨ x ∈ sn
    rw [h.vis x]
    simp only [List.mem_append, List.mem_singleton]
    constructor
    · rintro (h1 | h1 | h1)
      · exact .inl (.inl h1)
      · exact .inr h1
      · exact .inl (.inr h1)
    · rintro ((h1 | h1) | h1)
      · exact .inl h1
      · exact .inr (.inr h1)
      · exact .inr (.inl h1)
  · intro i hi q hq hq2
    have hi' : i < sn.length := hi
    have := h.nxt i (by simp; omega) q (by simp only; rw [getD_append_left (by omega)]; exact hq) (by simp only; rw [getD_append_left hi']; exact hq2)
    simp only at this
    rw [getD_append_left hi'] at this
    exact this
  · intro u y hu hE
    rcases List.mem_append.1 hu with hu | hu
    · exact h.blk u y hu hE
    · simp at hu; subst hu; exact hsucc y hE
  · intro u r hu hr
    rcases List.mem_append.1 hu with hu | hu
    · rcases h.jj u r hu hr with h1 | ⟨m, h1, h2⟩ | ⟨m, h1, h2⟩
      · exact .inl h1
      · by_cases e : m = v
        · subst e; exact keyv u r h1 hr
        · exact .inr (.inl ⟨m, h1, by simp only [List.mem_append, List.mem_singleton, not_or]; exact ⟨h2, e⟩⟩)
      · exact .inr (.inr ⟨m, h1, h2.more _⟩)
    · simp at hu; subst hu; exact keyv u r (.refl _) hr

/-- What the first pass gives. -/
structure Fins (out : Nat → List Nat) (n : Nat) (f : List Nat) : Prop where
  all : ∀ x, x < n ↔ x ∈ f
  nd : f.Nodup
  jj : ∀ u r, u < n → Reach (EO out) u r → Reach (EO out) r u ∨ (∃ m, Eqv (EO out) u m ∧ Before f r m)

theorem KInv.done (h : KInv out n s) (hs : s.sn = []) (hall : ∀ x, x < n → s.vis x = true) (hrow : ∀ v w, v < n → EO out v w → w < n) : Fins out n s.fin := by
  have hall' : ∀ x, x < n → x ∈ s.fin := fun x hx => by
    rcases (h.vis x).1 (hall x hx) with h1 | h1
    · exact h1
    · rw [hs] at h1; cases h1
  refine ⟨fun x => ⟨hall' x, fun hx => h.lt x ((h.vis x).2 (.inl hx))⟩, ?_, ?_⟩
  · have := h.nd; rw [hs, List.append_nil] at this; exact this
  · intro u r hu hr
    rcases h.jj u r (hall' u hu) hr with h1 | ⟨m, h1, h2⟩ | h1
    · exact .inl h1
    · exact absurd (hall' m (h1.1.closed (C := fun x => x < n) (fun a b ha hE => hrow a b ha hE) hu)) h2
    · exact .inr h1

/-! ### The second pass -/
/-- The components gathered so far: comp x < 0: not yet. -/
structure CInv (out : Nat → List Nat) (n : Nat) (f : List Nat) (i : Nat) (comp : Nat → Int) (size : List Nat) : Prop where
  rng : ∀ x, comp x < size.length
  eqv : ∀ x y, 0 ≤ comp x → Eqv (EO out) x y → 0 ≤ comp y
  ok : ∀ x, 0 ≤ comp x → (1 < size.getD (comp x).toNat 0 ↔ OnCyc (EO out) x)
  done : ∀ j, i ≤ j → j < f.length → 0 ≤ comp (f.getD j 0)

/-- In the midst of gathering: pp is popped, work is to do. -/
structure GInv (out : Nat → List Nat) (r : Nat) (c0 : Nat → Int) (k : Int) (pp work : List Nat) (comp : Nat → Int) : Prop where
  old : ∀ x, 0 ≤ c0 x → comp x = c0 x
  new : ∀ x, comp x = k ↔ x ∈ pp ++ work
  rest : ∀ x, comp x ≠ c0 x → comp x = k
  nd : (pp ++ work).Nodup
  rt : comp r = k
  rch : ∀ x, comp x = k → Reach (EO out) x r
  cls : ∀ v u, v ∈ pp → EO out u v → 0 ≤ comp u

def updI (f : Nat → Int) (k : Nat) (v : Int) : Nat → Int := fun x => if x = k then v else f x
theorem updI_same (f : Nat → Int) (k : Nat) (v : Int) : updI f k v k = v := if_pos rfl
theorem updI_other (f : Nat → Int) {k x : Nat} (v : Int) (h : x ≠ k) : updI f k v x = f x := if_neg h

variable {f : List Nat} {i : Nat} {comp c0 : Nat → Int} {size pp work : List Nat} {r : Nat} {k : Int}

theorem GInv.start (hr : c0 r < 0) (hfresh : ∀ x, c0 x ≠ k) : GInv out r c0 k [] [r] (updI c0 r k) := by
  refine ⟨?_, ?_, ?_, by simp, updI_same _ _ _, ?_, fun v u h => by cases h⟩
  · intro x hx
    exact updI_other _ _ (fun e => by subst e; omega)
  · intro x
    by_cases e : x = r
    · subst e; simp [updI_same]
    · rw [updI_other _ _ e]; simp [e, hfresh x]
  · intro x hx
    by_cases e : x = r
    · subst e; exact updI_same _ _ _
    · rw [updI_other _ _ e] at hx; exact absurd rfl hx
  · intro x hx
    by_cases e : x = r
    · subst e; exact .refl _
    · rw [updI_other _ _ e] at hx; exact absurd hx (hfresh x)

/-- A node that leads to v is laid on the list. -/
theorem GInv.add {ws : List Nat} (h : GInv out r c0 k pp ws comp) (hk : 0 ≤ k) {v u : Nat} (hv : comp v = k) (hE : EO out u v) (hu : comp u < 0) : GInv out r c0 k pp (ws ++ [u]) (updI comp u k) := by
  have hne : ∀ x, 0 ≤ comp x → x ≠ u := fun x hx e => by subst e; omega
  refine ⟨?_, ?_, ?_, ?_, ?_, ?_, ?_⟩
  · intro x hx
    have e := h.old x hx
    rw [updI_other _ _ (hne x (by omega))]; exact e
  · intro x
    by_cases e : x = u
    · subst e; simp [updI_same]
    · rw [updI_other _ _ e, h.new x]; simp [e]
  · intro x hx
    by_cases e : x = u
    · subst e; exact updI_same _ _ _
    · rw [updI_other _ _ e] at hx ⊢; exact h.rest x hx
  · rw [← List.append_assoc, List.nodup_append]
    refine ⟨h.nd, by simp, ?_⟩
    intro x hx y hy e
    simp at hy
    subst hy
    subst e
    have := (h.new x).2 hx
    omega
  · rw [updI_other _ _ (hne r (by rw [h.rt]; exact hk))]; exact h.rt
  · intro x hx
    by_cases e : x = u
    · subst e; exact (Reach.one hE).trans (h.rch v hv)
    · rw [updI_other _ _ e] at hx; exact h.rch x hx
  · intro x y hx hE'
    by_cases e : y = u
    · subst e; rw [updI_same]; exact hk
    · rw [updI_other _ _ e]; exact h.cls x y hx hE'

/-- A node is taken off the list; all that leads to it has a component. -/
theorem GInv.take {ws : List Nat} {v : Nat} (h : GInv out r c0 k pp (v :: ws) comp) (hall : ∀ u, EO out u v → 0 ≤ comp u) : GInv out r c0 k (pp ++ [v]) ws comp := by
  have e : pp ++ [v] ++ ws = pp ++ v :: ws := by simp
  refine ⟨h.old, fun x => by rw [h.new x, e], h.rest, by rw [e]; exact h.nd, h.rt, h.rch, ?_⟩
  intro x u hx hE
  rcases List.mem_append.1 hx with hx | hx
  · exact h.cls x u hx hE
  · simp at hx; subst hx; exact hall u hE

/-- Only the set on the list counts. -/
theorem GInv.perm {ws ws' : List Nat} (h : GInv out r c0 k pp ws comp) (hp : ws.Perm ws') : GInv out r c0 k pp ws' comp :=
  ⟨h.old, fun x => by rw [h.new x]; simp only [List.mem_append, hp.mem_iff], h.rest, (List.Perm.nodup_iff (List.Perm.append_left _ hp)).1 h.nd, h.rt, h.rch, h.cls⟩

theorem before_at {f : List Nat} (hnd : f.Nodup) {i : Nat} (hi : i < f.length) {m : Nat} (h : Before f (f.getD i 0) m) : ∃ j, i < j ∧ j < f.length ∧ f.getD j 0 = m := by
  obtain ⟨A, B, rfl, h1, h2⟩ := h
  obtain ⟨p, hp, hpe⟩ := List.getElem_of_mem h1
  obtain ⟨q, hq, hqe⟩ := List.getElem_of_mem h2
  have e1 : (A ++ B)[p]'(by simp; omega) = (A ++ B)[i] := by
    rw [List.getElem_append_left hp, hpe, List.getD_eq_getElem?_getD, List.getElem?_eq_getElem hi]
    rfl
  have hpw := List.pairwise_iff_getElem.1 hnd
  have e2 : p = i := by
    rcases Nat.lt_trichotomy p i with hl | he | hg
    · exact absurd e1 (hpw p i (by simp; omega) hi hl)
    · exact he
    · exact absurd e1.symm (hpw i p hi (by simp; omega) hg)
  refine ⟨A.length + q, by omega, by simp; omega, ?_⟩
  rw [List.getD_eq_getElem?_getD, List.getElem?_append_right (by omega)]
  simp [hq, hqe]

/-- The component has been gathered. -/
theorem CInv.gathered (hC : CInv out n f (i + 1) c0 size) (hF : Fins out n f) (hi : i < f.length) (hr : c0 (f.getD i 0) < 0) (hG : GInv out (f.getD i 0) c0 size.length pp [] comp) (hrow : ∀ v w, EO out v w → v < n) :
    CInv out n f i comp (size ++ [pp.length]) := by
  have hk : (0 : Int) ≤ (size.length : Int) := by omega
  have hpp : ∀ x, comp x = (size.length : Int) ↔ x ∈ pp := fun x => by rw [hG.new x, List.append_nil]
  have hfresh : ∀ x, c0 x ≠ (size.length : Int) := fun x => by have := hC.rng x; omega
  have hrn : f.getD i 0 < n := by
    rw [hF.all, List.getD_eq_getElem?_getD, List.getElem?_eq_getElem hi]
    exact List.getElem_mem _
  have hcase : ∀ x, comp x = c0 x ∨ comp x = (size.length : Int) := fun x => by
    by_cases e : comp x = c0 x
    · exact .inl e
    · exact .inr (hG.rest x e)
  have hnot : ∀ x, comp x = (size.length : Int) → c0 x < 0 := fun x hx => by
    by_cases e : 0 ≤ c0 x
    · have := hG.old x e
      exact absurd (this.symm.trans hx) (hfresh x)
    · omega
  have hlt : ∀ x, comp x = (size.length : Int) → x < n := fun x hx => by
    rcases (hG.rch x hx).head with e | ⟨y, h1, _⟩
    · rw [e]; exact hrn
    · exact hrow x y h1
  have hback : ∀ x, comp x = (size.length : Int) → Eqv (EO out) x (f.getD i 0) := fun x hx => by
    have hre := hG.rch x hx
    rcases hF.jj x _ (hlt x hx) hre with h1 | ⟨m, h1, h2⟩
    · exact ⟨hre, h1⟩
    · exfalso
      obtain ⟨j, j1, j2, j3⟩ := before_at hF.nd hi h2
      have h3 := hC.done j (by omega) j2
      rw [j3] at h3
      have := hC.eqv m x h3 h1.symm
      have := hnot x hx
      omega
  have hforth : ∀ x, Eqv (EO out) x (f.getD i 0) → comp x = (size.length : Int) := fun x hx => by
    by_cases e : comp x = (size.length : Int)
    · exact e
    · exfalso
      obtain ⟨a, b, g1, g2, g3, g4, g5⟩ := hx.1.exit (C := fun y => comp y ≠ (size.length : Int)) e (fun hh => hh hG.rt)
      have hb : comp b = (size.length : Int) := by
        by_cases e2 : comp b = (size.length : Int)
        · exact e2
        · exact absurd e2 g4
      have ha := hG.cls b a ((hpp b).1 hb) g3
      have ha0 : 0 ≤ c0 a := by
        rcases hcase a with h1 | h1
        · omega
        · exact absurd h1 g2
      have hea : Eqv (EO out) a (f.getD i 0) := ⟨(Reach.one g3).trans g5, hx.2.trans g1⟩
      have := hC.eqv a _ ha0 hea
      omega
  refine ⟨?_, ?_, ?_, ?_⟩
  · intro x
    rw [List.length_append]
    rcases hcase x with h1 | h1
    · rw [h1]; have := hC.rng x; simp; omega
    · rw [h1]; simp; omega
  · intro x y hx hxy
    rcases hcase x with h1 | h1
    · rw [h1] at hx
      have hy := hC.eqv x y hx hxy
      rw [hG.old y hy]; exact hy
    · rw [hforth y (hxy.symm.trans (hback x h1))]; exact hk
  · intro x hx
    rcases hcase x with h1 | h1
    · rw [h1] at hx ⊢
      have hr := hC.rng x
      rw [List.getD_eq_getElem?_getD, List.getElem?_append_left (by omega), ← List.getD_eq_getElem?_getD]
      exact hC.ok x hx
    · rw [h1]
      have e : (size ++ [pp.length]).getD (size.length : Int).toNat 0 = pp.length := by simp [List.getD_eq_getElem?_getD]
      rw [e]
      have hnd : pp.Nodup := by have := hG.nd; rw [List.append_nil] at this; exact this
      have hxp := (hpp x).1 h1
      constructor
      · intro hl
        have hother : ∃ y, y ∈ pp ∧ y ≠ x := by
          rcases pp with _ | ⟨p, _ | ⟨p2, ps⟩⟩
          · simp at hl
          · simp at hl
          · by_cases ep : p = x
            · refine ⟨p2, by simp, fun e2 => ?_⟩
              rw [List.nodup_cons] at hnd
              exact hnd.1 (by rw [ep, ← e2]; simp)
            · exact ⟨p, by simp, ep⟩
        obtain ⟨y, hy, hyx⟩ := hother
        have := (hback x h1).trans (hback y ((hpp y).2 hy)).symm
        exact ⟨y, hyx, this.1, this.2⟩
      · rintro ⟨w, hwx, h2, h3⟩
        have hw := (hpp w).1 (hforth w ((Eqv.symm ⟨h2, h3⟩).trans (hback x h1)))
        rcases pp with _ | ⟨p, _ | ⟨p2, ps⟩⟩
        · cases hw
        · simp at hw hxp; exact absurd (hw.trans hxp.symm) hwx
        · simp
  · intro j hj hj2
    by_cases e : j = i
    · subst e; rw [hG.rt]; exact hk
    · have := hC.done j (by omega) hj2
      rw [hG.old _ this]; exact this

theorem CInv.first (out : Nat → List Nat) (n : Nat) (f : List Nat) : CInv out n f f.length (fun _ => -1) [] :=
  ⟨fun _ => by simp, fun _ _ h => by simp at h, fun _ h => by simp at h, fun j h1 h2 => by omega⟩

theorem CInv.skip (h : CInv out n f (i + 1) comp size) (hr : 0 ≤ comp (f.getD i 0)) : CInv out n f i comp size :=
  ⟨h.rng, h.eqv, h.ok, fun j h1 h2 => by
    by_cases e : j = i
    · subst e; exact hr
    · exact h.done j (by omega) h2⟩
end Go.Proofs.Qxb6602460a
