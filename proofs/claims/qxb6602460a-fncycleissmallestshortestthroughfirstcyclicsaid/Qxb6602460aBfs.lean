import Derived.Test.Qxb6602460aKos
namespace Go.Proofs.Qxb6602460a

/-! ### Distances to s -/
structure Dist (out : Nat → List Nat) (s : Nat) (dist : Nat → Int) : Prop where
  s0 : dist s = 0
  zero : ∀ x, dist x = 0 → x = s
  up : ∀ v w, EO out v w → 0 ≤ dist w → 0 ≤ dist v ∧ dist v ≤ dist w + 1
  dn : ∀ v, v ≠ s → 0 ≤ dist v → ∃ w, EO out v w ∧ 0 ≤ dist w ∧ dist v = dist w + 1

/-- In the midst of the search: Q is laid, the first h are done, of the next one's forerunners those in K. -/
structure RInv (out : Nat → List Nat) (s : Nat) (Q : List Nat) (h : Nat) (K : List Nat) (dist : Nat → Int) : Prop where
  hq : h ≤ Q.length
  q0 : 0 < Q.length
  ms : s ∈ Q
  s0 : dist s = 0
  nd : Q.Nodup
  mem : ∀ x, 0 ≤ dist x ↔ x ∈ Q
  srt : Q.Pairwise (fun a b => dist a ≤ dist b)
  near : h < Q.length → ∀ x, x ∈ Q → dist x ≤ dist (Q.getD h 0) + 1
  dn : ∀ x, x ∈ Q → x ≠ s → ∃ w, EO out x w ∧ 0 ≤ dist w ∧ dist x = dist w + 1
  done : ∀ j, j < h → ∀ u, EO out u (Q.getD j 0) → 0 ≤ dist u ∧ dist u ≤ dist (Q.getD j 0) + 1
  cur : ∀ u, u ∈ K → 0 ≤ dist u ∧ dist u ≤ dist (Q.getD h 0) + 1

variable {out : Nat → List Nat} {s h : Nat} {Q K : List Nat} {dist : Nat → Int}

theorem getD_mem {l : List Nat} {i : Nat} (h : i < l.length) : l.getD i 0 ∈ l := by
  rw [List.getD_eq_getElem?_getD, List.getElem?_eq_getElem h]
  exact List.getElem_mem _

theorem RInv.start (out : Nat → List Nat) (s : Nat) : RInv out s [s] 0 [] (updI (fun _ => -1) s 0) := by
  have hs : updI (fun _ => -1) s 0 s = 0 := updI_same _ _ _
  refine ⟨by simp, by simp, by simp, hs, by simp, ?_, by simp, ?_, ?_, fun j hj => absurd hj (Nat.not_lt_zero _), fun u hu => by cases hu⟩
  · intro x
    by_cases e : x = s
    · subst e; simp [hs]
    · rw [updI_other _ _ e]; simp [e]
  · intro _ x hx
    simp at hx
    subst hx
    simp [hs]
  · intro x hx hne
    simp at hx
    exact absurd hx hne

theorem RInv.seen (hR : RInv out s Q h K dist) (hlt : h < Q.length) {u : Nat} (hu : 0 ≤ dist u) : RInv out s Q h (K ++ [u]) dist := by
  refine ⟨hR.hq, hR.q0, hR.ms, hR.s0, hR.nd, hR.mem, hR.srt, hR.near, hR.dn, hR.done, fun x hx => ?_⟩
  rcases List.mem_append.1 hx with hx | hx
  · exact hR.cur x hx
  · simp at hx; subst hx; exact ⟨hu, hR.near hlt _ ((hR.mem _).1 hu)⟩

theorem RInv.add (hR : RInv out s Q h K dist) (hlt : h < Q.length) {u : Nat} (hE : EO out u (Q.getD h 0)) (hu : dist u < 0) :
    RInv out s (Q ++ [u]) h (K ++ [u]) (updI dist u (dist (Q.getD h 0) + 1)) := by
  have hv := getD_mem hlt
  have hv0 : 0 ≤ dist (Q.getD h 0) := (hR.mem _).2 hv
  have huQ : u ∉ Q := fun hm => by have := (hR.mem u).2 hm; omega
  have ne : ∀ x, 0 ≤ dist x → x ≠ u := fun x hx e => by subst e; omega
  have ho : ∀ x, x ∈ Q → updI dist u (dist (Q.getD h 0) + 1) x = dist x := fun x hx => updI_other _ _ (fun e => huQ (e ▸ hx))
  have hu' : updI dist u (dist (Q.getD h 0) + 1) u = dist (Q.getD h 0) + 1 := updI_same _ _ _
  have hg : ∀ j, j < Q.length → (Q ++ [u]).getD j 0 = Q.getD j 0 := fun j hj => getD_append_left hj
  refine ⟨by simp; have := hR.hq; omega, by simp, by simp [hR.ms], by rw [ho s hR.ms]; exact hR.s0, ?_, ?_, ?_, ?_, ?_, ?_, ?_⟩
  · rw [List.nodup_append]
    exact ⟨hR.nd, by simp, fun x hx y hy e => by simp at hy; subst hy; subst e; exact huQ hx⟩
  · intro x
    by_cases e : x = u
    · subst e; rw [hu']; exact ⟨fun _ => by simp, fun _ => by omega⟩
    · rw [updI_other _ _ e, hR.mem x]; simp [e]
  · rw [List.pairwise_append]
    refine ⟨List.Pairwise.imp_of_mem (fun {x y} hx hy hxy => by rw [ho x hx, ho y hy]; exact hxy) hR.srt, by simp, ?_⟩
    intro x hx y hy
    simp at hy
    subst hy
    rw [ho x hx, hu']
    exact hR.near hlt x hx
  · intro _ x hx
    rw [hg h hlt, ho _ hv]
    rcases List.mem_append.1 hx with hx | hx
    · rw [ho x hx]; exact hR.near hlt x hx
    · simp at hx; subst hx; rw [hu']; exact Int.le_refl _
  · intro x hx hne
    rcases List.mem_append.1 hx with hx | hx
    · obtain ⟨w, w1, w2, w3⟩ := hR.dn x hx hne
      have hw := ho w ((hR.mem w).1 w2)
      exact ⟨w, w1, by rw [hw]; exact w2, by rw [ho x hx, hw]; exact w3⟩
    · simp at hx; subst hx
      exact ⟨Q.getD h 0, hE, by rw [ho _ hv]; exact hv0, by rw [hu', ho _ hv]⟩
  · intro j hj w hw
    have hjl : j < Q.length := by omega
    rw [hg j hjl] at hw ⊢
    obtain ⟨d1, d2⟩ := hR.done j hj w hw
    have hwQ := (hR.mem w).1 d1
    rw [ho w hwQ, ho _ (getD_mem hjl)]
    exact ⟨d1, d2⟩
  · intro w hw
    rw [hg h hlt, ho _ hv]
    rcases List.mem_append.1 hw with hw | hw
    · obtain ⟨d1, d2⟩ := hR.cur w hw
      rw [ho w ((hR.mem w).1 d1)]; exact ⟨d1, d2⟩
    · simp at hw; subst hw; rw [hu']; exact ⟨by omega, Int.le_refl _⟩

theorem RInv.next (hR : RInv out s Q h K dist) (hlt : h < Q.length) (hK : ∀ u, EO out u (Q.getD h 0) → u ∈ K) : RInv out s Q (h + 1) [] dist := by
  refine ⟨hlt, hR.q0, hR.ms, hR.s0, hR.nd, hR.mem, hR.srt, ?_, hR.dn, ?_, fun u hu => by cases hu⟩
  · intro hl x hx
    have h1 := hR.near hlt x hx
    have h2 := List.pairwise_iff_getElem.1 hR.srt h (h + 1) hlt hl (Nat.lt_succ_self _)
    have e1 : Q.getD h 0 = Q[h] := by rw [List.getD_eq_getElem?_getD, List.getElem?_eq_getElem hlt]; rfl
    have e2 : Q.getD (h + 1) 0 = Q[h + 1] := by rw [List.getD_eq_getElem?_getD, List.getElem?_eq_getElem hl]; rfl
    rw [e1] at h1
    rw [e2]
    omega
  · intro j hj u hu
    by_cases e : j = h
    · subst e; exact hR.cur u (hK u hu)
    · exact hR.done j (by omega) u hu

theorem RInv.gives (hR : RInv out s Q Q.length [] dist) : Dist out s dist := by
  refine ⟨hR.s0, ?_, ?_, fun v hv h0 => hR.dn v ((hR.mem v).1 h0) hv⟩
  · intro x hx
    by_cases e : x = s
    · exact e
    · obtain ⟨w, _, w2, w3⟩ := hR.dn x ((hR.mem x).1 (by omega)) e
      omega
  · intro v w hE hw
    obtain ⟨j, hj, hje⟩ := List.getElem_of_mem ((hR.mem w).1 hw)
    have e : Q.getD j 0 = w := by rw [List.getD_eq_getElem?_getD, List.getElem?_eq_getElem hj]; exact hje
    have := hR.done j hj v (by rw [e]; exact hE)
    rw [e] at this
    exact this

/-! ### The search from s -/
structure FInv (out : Nat → List Nat) (s : Nat) (Q : List Nat) (pi : Nat → Nat) (h : Nat) (K : List Nat) (par : Nat → Int) : Prop where
  hq : h ≤ Q.length
  q0 : 0 < Q.length
  qs : Q.getD 0 0 = s
  nd : Q.Nodup
  mem : ∀ x, 0 ≤ par x ↔ x ∈ Q
  ps : par s = (s : Int)
  pp : ∀ j, 0 < j → j < Q.length → pi j < j ∧ pi j ≤ h ∧ EO out (Q.getD (pi j) 0) (Q.getD j 0) ∧ par (Q.getD j 0) = (Q.getD (pi j) 0 : Nat)
  pm : ∀ j j', 0 < j → j ≤ j' → j' < Q.length → pi j ≤ pi j'
  sm : ∀ j j', 0 < j → j < j' → j' < Q.length → pi j = pi j' → Q.getD j 0 < Q.getD j' 0
  fst : ∀ j, 0 < j → j < Q.length → ∀ i, i < pi j → ¬ EO out (Q.getD i 0) (Q.getD j 0)
  done : ∀ i, i < h → ∀ w, EO out (Q.getD i 0) w → w ∈ Q ∧ w ≠ s
  cur : ∀ w, w ∈ K → w ∈ Q ∧ w ≠ s
  asc : ∀ j, 0 < j → j < Q.length → pi j = h → Q.getD j 0 ∈ K

variable {pi : Nat → Nat} {par : Nat → Int}

theorem FInv.start (out : Nat → List Nat) (s : Nat) : FInv out s [s] (fun _ => 0) 0 [] (updI (fun _ => -1) s (s : Int)) := by
  have hs : updI (fun _ => -1) s (s : Int) s = (s : Int) := updI_same _ _ _
  refine ⟨by simp, by simp, rfl, by simp, ?_, hs, fun j h1 h2 => (by simp at h2; omega), fun j j' h1 h2 h3 => Nat.le_refl _, fun j j' h1 h2 h3 => (by simp at h3; omega), fun j h1 h2 => (by simp at h2; omega), fun i hi => absurd hi (Nat.not_lt_zero _), fun w hw => (by cases hw), fun j h1 h2 => (by simp at h2; omega)⟩
  intro x
  by_cases e : x = s
  · subst e; simp [hs]
  · rw [updI_other _ _ e]; simp [e]

theorem FInv.seen (hF : FInv out s Q pi h K par) {w : Nat} (hw : 0 ≤ par w) (hne : w ≠ s) : FInv out s Q pi h (K ++ [w]) par :=
  ⟨hF.hq, hF.q0, hF.qs, hF.nd, hF.mem, hF.ps, hF.pp, hF.pm, hF.sm, hF.fst, hF.done, fun x hx => by
    rcases List.mem_append.1 hx with hx | hx
    · exact hF.cur x hx
    · simp at hx; subst hx; exact ⟨(hF.mem _).1 hw, hne⟩, fun j h1 h2 h3 => List.mem_append.2 (.inl (hF.asc j h1 h2 h3))⟩

theorem FInv.add (hF : FInv out s Q pi h K par) (hlt : h < Q.length) {w : Nat} (hE : EO out (Q.getD h 0) w) (hw : par w < 0) (hasc : ∀ x, x ∈ K → x ≤ w) :
    FInv out s (Q ++ [w]) (updN pi Q.length h) h (K ++ [w]) (updI par w (Q.getD h 0 : Nat)) := by
  have hwQ : w ∉ Q := fun hm => by have := (hF.mem w).2 hm; omega
  have hsQ : s ∈ Q := by rw [← hF.qs]; exact getD_mem hF.q0
  have hws : w ≠ s := fun e => hwQ (e ▸ hsQ)
  have ho : ∀ x, x ∈ Q → updI par w (Q.getD h 0 : Nat) x = par x := fun x hx => updI_other _ _ (fun e => hwQ (e ▸ hx))
  have hg : ∀ j, j < Q.length → (Q ++ [w]).getD j 0 = Q.getD j 0 := fun j hj => getD_append_left hj
  have hgl : (Q ++ [w]).getD Q.length 0 = w := getD_append_last _ _
  have hp : ∀ j, j < Q.length → updN pi Q.length h j = pi j := fun j hj => updN_other _ _ (by omega)
  have hpl : updN pi Q.length h Q.length = h := updN_same _ _ _
  refine ⟨by simp; omega, by simp, by rw [hg 0 hF.q0]; exact hF.qs, ?_, ?_, by rw [ho s hsQ]; exact hF.ps, ?_, ?_, ?_, ?_, ?_, ?_, ?_⟩
  · rw [List.nodup_append]
    exact ⟨hF.nd, by simp, fun x hx y hy e => by simp at hy; subst hy; subst e; exact hwQ hx⟩
  · intro x
    by_cases e : x = w
    · subst e; rw [updI_same]; simp
    · rw [updI_other _ _ e, hF.mem x]; simp [e]
  · intro j h0 hj
    by_cases e : j = Q.length
    · subst e
      rw [hpl, hgl, hg h hlt, updI_same]
      exact ⟨hlt, Nat.le_refl _, hE, rfl⟩
    · have hj' : j < Q.length := by simp at hj; omega
      obtain ⟨p1, p2, p3, p4⟩ := hF.pp j h0 hj'
      rw [hp j hj', hg j hj', hg (pi j) (by omega), ho _ (getD_mem hj')]
      exact ⟨p1, p2, p3, p4⟩
  · intro j j' h0 hjj hj'
    by_cases e : j' = Q.length
    · subst e
      rw [hpl]
      by_cases e2 : j = Q.length
      · subst e2; rw [hpl]; exact Nat.le_refl _
      · rw [hp j (by omega)]; exact (hF.pp j h0 (by omega)).2.1
    · have hj2 : j' < Q.length := by simp at hj'; omega
      rw [hp j (by omega), hp j' hj2]
      exact hF.pm j j' h0 hjj hj2
  · intro j j' h0 hjj hj' heq
    by_cases e : j' = Q.length
    · subst e
      rw [hpl, hp j (by omega)] at heq
      rw [hgl, hg j (by omega)]
      have h1 := hF.asc j h0 (by omega) heq
      have h2 := hasc _ h1
      have h3 : Q.getD j 0 ≠ w := fun e => hwQ (e ▸ getD_mem (by omega))
      omega
    · have hj2 : j' < Q.length := by simp at hj'; omega
      rw [hp j (by omega), hp j' hj2] at heq
      rw [hg j (by omega), hg j' hj2]
      exact hF.sm j j' h0 hjj hj2 heq
  · intro j h0 hj i hi
    by_cases e : j = Q.length
    · subst e
      rw [hpl] at hi
      rw [hgl, hg i (by omega)]
      intro hh
      exact hwQ (hF.done i hi w hh).1
    · have hj' : j < Q.length := by simp at hj; omega
      rw [hp j hj'] at hi
      have := (hF.pp j h0 hj').1
      rw [hg j hj', hg i (by omega)]
      exact hF.fst j h0 hj' i hi
  · intro i hi x hx
    rw [hg i (by omega)] at hx
    obtain ⟨g1, g2⟩ := hF.done i hi x hx
    exact ⟨by simp [g1], g2⟩
  · intro x hx
    rcases List.mem_append.1 hx with hx | hx
    · obtain ⟨g1, g2⟩ := hF.cur x hx
      exact ⟨by simp [g1], g2⟩
    · simp at hx; subst hx; exact ⟨by simp, hws⟩
  · intro j h0 hj heq
    by_cases e : j = Q.length
    · subst e; rw [hgl]; simp
    · have hj' : j < Q.length := by simp at hj; omega
      rw [hp j hj'] at heq
      rw [hg j hj']
      exact List.mem_append.2 (.inl (hF.asc j h0 hj' heq))

theorem FInv.next (hF : FInv out s Q pi h K par) (hlt : h < Q.length) (hK : ∀ w, EO out (Q.getD h 0) w → w ∈ K) : FInv out s Q pi (h + 1) [] par :=
  ⟨hlt, hF.q0, hF.qs, hF.nd, hF.mem, hF.ps, fun j h0 hj => by
    obtain ⟨p1, p2, p3, p4⟩ := hF.pp j h0 hj
    exact ⟨p1, by omega, p3, p4⟩, hF.pm, hF.sm, hF.fst, fun i hi w hw => by
    by_cases e : i = h
    · subst e; exact hF.cur w (hK w hw)
    · exact hF.done i (by omega) w hw, fun w hw => (by cases hw), fun j h0 hj heq => by have := (hF.pp j h0 hj).2.1; omega⟩

/-- The depth in the tree. -/
def levF (pi : Nat → Nat) : Nat → Nat → Nat
  | 0, _ => 0
  | f + 1, j => if j = 0 then 0 else levF pi f (pi j) + 1

theorem levF_eq {pi : Nat → Nat} {m : Nat} (hpi : ∀ j, 0 < j → j < m → pi j < j) : ∀ f f' j, j ≤ f → j ≤ f' → j < m → levF pi f j = levF pi f' j
  | 0, 0, _, _, _, _ => rfl
  | 0, f' + 1, j, h1, _, _ => by have : j = 0 := by omega
                                 subst this; simp [levF]
  | f + 1, 0, j, _, h2, _ => by have : j = 0 := by omega
                                subst this; simp [levF]
  | f + 1, f' + 1, j, h1, h2, hm => by
    simp only [levF]
    by_cases e : j = 0
    · simp [e]
    · rw [if_neg e, if_neg e]
      have := hpi j (by omega) hm
      rw [levF_eq hpi f f' (pi j) (by omega) (by omega) (by omega)]

def lev (pi : Nat → Nat) (j : Nat) : Nat := levF pi j j

theorem lev_zero (pi : Nat → Nat) : lev pi 0 = 0 := rfl
theorem lev_succ {pi : Nat → Nat} {m j : Nat} (hpi : ∀ j, 0 < j → j < m → pi j < j) (h0 : 0 < j) (hm : j < m) : lev pi j = lev pi (pi j) + 1 := by
  obtain ⟨f, rfl⟩ : ∃ f, j = f + 1 := ⟨j - 1, by omega⟩
  have := hpi (f + 1) h0 hm
  show levF pi (f + 1) (f + 1) = levF pi (pi (f + 1)) (pi (f + 1)) + 1
  simp only [levF]
  rw [if_neg (by omega), levF_eq hpi f (pi (f + 1)) (pi (f + 1)) (by omega) (Nat.le_refl _) (by omega)]

theorem lev_mono {pi : Nat → Nat} {m : Nat} (hpi : ∀ j, 0 < j → j < m → pi j < j) (hm : ∀ j j', 0 < j → j ≤ j' → j' < m → pi j ≤ pi j') : ∀ j' j, j ≤ j' → j' < m → lev pi j ≤ lev pi j' := by
  intro j'
  induction j' using Nat.strongRecOn with
  | _ j' ih =>
    intro j hj hjm
    by_cases e : j = 0
    · subst e; rw [lev_zero]; exact Nat.zero_le _
    · rw [lev_succ hpi (by omega) (by omega), lev_succ hpi (show 0 < j' by omega) hjm]
      have h1 := hpi j' (by omega) hjm
      exact Nat.succ_le_succ (ih (pi j') h1 (pi j) (hm j j' (by omega) hj hjm) (by omega))

/-- The least next step: w is the least successor of v whose distance is d. -/
structure Least (out : Nat → List Nat) (dist : Nat → Int) (v : Nat) (z : Int) (w : Nat) : Prop where
  e : EO out v w
  d : dist w = z
  le : ∀ x, EO out v x → dist x = z → w ≤ x

/-- The tree's way to the first node that leads back to s is the least one among the shortest. -/
theorem bfs_best (hF : FInv out s Q pi h K par) (hlt : h < Q.length) (hback : EO out (Q.getD h 0) s) (hself : ∀ v, ¬ EO out v v) (hD : Dist out s dist) {L : Nat} (hL2 : 2 ≤ L)
    (hLmin : ∀ w, EO out s w → 0 ≤ dist w → (L : Int) ≤ dist w + 1) {p : Nat → Nat} (hp0 : p 0 = s) (hp : ∀ i, i + 1 < L → Least out dist (p i) ((L : Int) - i - 1) (p (i + 1))) :
    lev pi h = L - 1 ∧ ∃ t : Nat → Nat, t (L - 1) = h ∧ t 0 = 0 ∧ (∀ i, i < L → t i < Q.length ∧ Q.getD (t i) 0 = p i) ∧ ∀ i, i + 1 < L → 0 < t (i + 1) ∧ pi (t (i + 1)) = t i := by
  have hpi : ∀ j, 0 < j → j < Q.length → pi j < j := fun j h0 hj => (hF.pp j h0 hj).1
  have hmono := lev_mono hpi hF.pm
  -- a closed walk is at least L long
  have W : ∀ t, 0 < t → t < Q.length → 0 ≤ dist (Q.getD t 0) → (L : Int) ≤ lev pi t + dist (Q.getD t 0) := by
    intro t
    induction t using Nat.strongRecOn with
    | _ t ih =>
      intro h0 ht hd
      obtain ⟨p1, p2, p3, p4⟩ := hF.pp t h0 ht
      rw [lev_succ hpi h0 ht]
      by_cases e : pi t = 0
      · rw [e, hF.qs] at p3
        rw [e, lev_zero]
        have := hLmin _ p3 hd
        omega
      · obtain ⟨d1, d2⟩ := hD.up _ _ p3 hd
        have := ih (pi t) p1 (by omega) (by omega) d1
        omega
  have hne0 : h ≠ 0 := fun e => by rw [e, hF.qs] at hback; exact hself _ hback
  obtain ⟨dh1, dh2⟩ := hD.up _ _ hback (by rw [hD.s0]; exact Int.le_refl _)
  rw [hD.s0] at dh2
  have hlevh : (L : Int) ≤ lev pi h + 1 := by
    have := W h (by omega) hlt dh1
    omega
  -- the least way, step by step
  have step : ∀ i, i < L → ∃ t : Nat → Nat, t 0 = 0 ∧ (∀ q, q ≤ i → t q < Q.length ∧ Q.getD (t q) 0 = p q ∧ lev pi (t q) = q ∧ (0 < q → dist (p q) = (L : Int) - q) ∧ ∀ y, y < Q.length → lev pi y = q → (0 < q → dist (Q.getD y 0) = (L : Int) - q) → t q ≤ y) ∧ (∀ q, q + 1 ≤ i → 0 < t (q + 1) ∧ pi (t (q + 1)) = t q) := by
    intro i
    induction i with
    | zero =>
      intro _
      refine ⟨fun _ => 0, rfl, fun q hq => ?_, fun q hq => absurd hq (by omega)⟩
      have : q = 0 := by omega
      subst this
      exact ⟨hF.q0, by rw [hF.qs, hp0], lev_zero _, fun h => absurd h (by omega), fun y _ _ _ => Nat.zero_le _⟩
    | succ i ih =>
      intro hi
      obtain ⟨t, t0, tq, tp⟩ := ih (by omega)
      obtain ⟨a1, a2, a3, a4, a5⟩ := tq i (Nat.le_refl _)
      have hl := hp i hi
      have hti : t i < h := by
        by_cases hc : t i < h
        · exact hc
        · have := hmono (t i) h (by omega) a1
          omega
      have hE : EO out (Q.getD (t i) 0) (p (i + 1)) := by rw [a2]; exact hl.e
      obtain ⟨hwQ, hws⟩ := hF.done (t i) hti _ hE
      obtain ⟨y, hy, hye⟩ := List.getElem_of_mem hwQ
      have hyg : Q.getD y 0 = p (i + 1) := by rw [List.getD_eq_getElem?_getD, List.getElem?_eq_getElem hy]; exact hye
      have hy0 : 0 < y := by
        by_cases e : y = 0
        · subst e; rw [hF.qs] at hyg; exact absurd hyg.symm hws
        · omega
      have hdw : dist (p (i + 1)) = (L : Int) - (i + 1 : Nat) := by rw [hl.d]; omega
      -- any good node of the next level has a good parent
      have good : ∀ z, 0 < z → z < Q.length → lev pi z = i + 1 → dist (Q.getD z 0) = (L : Int) - (i + 1 : Nat) → t i ≤ pi z := by
        intro z hz0 hz hzl hzd
        obtain ⟨p1, p2, p3, p4⟩ := hF.pp z hz0 hz
        have hl1 := lev_succ hpi hz0 hz
        obtain ⟨d1, d2⟩ := hD.up _ _ p3 (by omega)
        refine a5 (pi z) (by omega) (by omega) (fun hq => ?_)
        have hpz : 0 < pi z := by
          by_cases e : pi z = 0
          · rw [e, lev_zero] at hl1; omega
          · omega
        have := W (pi z) hpz (by omega) d1
        omega
      have hpy : pi y ≤ t i := by
        by_cases hc : pi y ≤ t i
        · exact hc
        · exact absurd (by rw [hyg]; exact hE) (hF.fst y hy0 hy (t i) (by omega))
      have hly := lev_succ hpi hy0 hy
      have hlp := hmono (t i) (pi y) hpy a1
      have hWy := W y hy0 hy (by rw [hyg]; omega)
      rw [hyg] at hWy
      have hlevy : lev pi y = i + 1 := by omega
      have hpiy : pi y = t i := by
        have := good y hy0 hy hlevy (by rw [hyg]; exact hdw)
        omega
      refine ⟨fun q => if q = i + 1 then y else t q, by simp [t0], fun q hq => ?_, fun q hq => ?_⟩
      · by_cases e : q = i + 1
        · subst e
          simp only [if_true]
          refine ⟨hy, hyg, hlevy, fun _ => hdw, fun z hz hzl hzd => ?_⟩
          by_cases hc : y ≤ z
          · exact hc
          · exfalso
            have hz0 : 0 < z := by
              by_cases e : z = 0
              · subst e; rw [lev_zero] at hzl; omega
              · omega
            have h1 := good z hz0 hz hzl (hzd (by omega))
            have h2 := hF.pm z y hz0 (by omega) hy
            have h3 : pi z = t i := by omega
            have h4 := hF.sm z y hz0 (by omega) hy (by omega)
            obtain ⟨_, _, p3, _⟩ := hF.pp z hz0 hz
            rw [h3, a2] at p3
            have h5 := hl.le _ p3 (by rw [hzd (by omega)]; omega)
            rw [hyg] at h4
            omega
        · simp only [if_neg e]
          exact tq q (by omega)
      · by_cases e : q = i
        · subst e
          simp only [if_true]
          rw [if_neg (by omega)]
          exact ⟨hy0, hpiy⟩
        · simp only
          rw [if_neg (by omega), if_neg (by omega)]
          exact tp q (by omega)
  obtain ⟨t, t0, tq, tp⟩ := step (L - 1) (by omega)
  obtain ⟨a1, a2, a3, a4, a5⟩ := tq (L - 1) (Nat.le_refl _)
  have hd1 : dist (p (L - 1)) = 1 := by rw [a4 (by omega)]; omega
  have hps : p (L - 1) ≠ s := fun e => by rw [e, hD.s0] at hd1; omega
  obtain ⟨w, w1, w2, w3⟩ := hD.dn _ hps (by omega)
  have hw : w = s := hD.zero w (by omega)
  subst hw
  have hht : h ≤ t (L - 1) := by
    by_cases hc : h ≤ t (L - 1)
    · exact hc
    · exact absurd rfl (hF.done (t (L - 1)) (by omega) w (by rw [a2]; exact w1)).2
  have hlv : lev pi h = L - 1 := by
    have := hmono (t (L - 1)) h hht a1
    omega
  have hth : t (L - 1) ≤ h := a5 h hlt hlv (fun _ => by
    have := W h (by omega) hlt dh1
    omega)
  have he : t (L - 1) = h := by omega
  exact ⟨hlv, t, he, t0, fun i hi => ⟨(tq i (by omega)).1, (tq i (by omega)).2.1⟩, fun i hi => tp i (by omega)⟩
end Go.Proofs.Qxb6602460a
