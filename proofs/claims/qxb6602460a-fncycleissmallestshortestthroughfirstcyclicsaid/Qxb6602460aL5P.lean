import Derived.Test.Qxb6602460aScc3
import Derived.Test.Qxb6602460aSame
namespace Go.Proofs.Qxb6602460a
open Go.RowKit Go.Maps Go.Own

/-! ### The rows as lists -/
def outOf (n : Nat) (N : Nat → Nat) (X : Nat → Nat → Int) : Nat → List Nat := fun v => if v < n then (List.range (N v)).map (fun y => (X v y).toNat) else []

variable {n : Nat} {N : Nat → Nat} {X : Nat → Nat → Int}

theorem outOf_len {v : Nat} (h : v < n) : (outOf n N X v).length = N v := by unfold outOf; rw [if_pos h]; simp
theorem outOf_getD {v y : Nat} (h : v < n) (hy : y < N v) : (outOf n N X v).getD y 0 = (X v y).toNat := by
  unfold outOf; rw [if_pos h]; simp [List.getD_eq_getElem?_getD, hy]
theorem outOf_row {v x : Nat} (h : EO (outOf n N X) v x) : v < n := by
  unfold EO outOf at h
  by_cases e : v < n
  · exact e
  · rw [if_neg e] at h; cases h
theorem outOf_mem {v x : Nat} (h : EO (outOf n N X) v x) : v < n ∧ ∃ y, y < N v ∧ x = (X v y).toNat := by
  have hv := outOf_row h
  obtain ⟨i, hi, he⟩ := mem_at h
  rw [outOf_len hv] at hi
  rw [outOf_getD hv hi] at he
  exact ⟨hv, i, hi, he.symm⟩

theorem Gr.of_rows {w : World} {oa : Option Addr} {oc : Nat} {A : Nat → Option Addr} {C : Nat → Nat} (h : RowsAt w oa n oc A N C X) (h0 : ∀ v, v < n → ∀ y, y < N v → 0 ≤ X v y ∧ X v y < (n : Int)) : Gr w oa n oc A C (outOf n N X) := by
  refine ⟨h.1.congr fun i hi => by simp only; rw [outOf_len hi], fun i hi => ?_⟩
  have h2 := h.2 i hi
  show SliceAt w (A i) (outOf n N X i).length (C i) _
  rw [outOf_len hi]
  exact h2.congr fun j hj => by simp only; rw [outOf_getD hi hj, Int.toNat_of_nonneg (h0 i hi j hj).1]

theorem outOf_asc (h1 : ∀ v, v < n → ∀ y, y + 1 < N v → X v y ≤ X v (y + 1)) :
    ∀ v, v < n → ∀ i j, i ≤ j → j < (outOf n N X v).length → (outOf n N X v).getD i 0 ≤ (outOf n N X v).getD j 0 := by
  intro v hv i j hij hj
  rw [outOf_len hv] at hj
  rw [outOf_getD hv (by omega), outOf_getD hv hj]
  have key : ∀ d, i + d < N v → X v i ≤ X v (i + d) := by
    intro d
    induction d with
    | zero => intro _; exact Int.le_refl _
    | succ d ih => intro hd; exact Int.le_trans (ih (by omega)) (h1 v hv (i + d) hd)
  have := key (j - i) (by omega)
  rw [show i + (j - i) = j by omega] at this
  omega

/-! ### Distances -/
variable {out : Nat → List Nat} {s : Nat} {dist : Nat → Int}

theorem Dist.reach (hD : Dist out s dist) {x : Nat} (h : Reach (EO out) x s) : 0 ≤ dist x := by
  by_cases e : 0 ≤ dist x
  · exact e
  · exfalso
    obtain ⟨u, y, _, g2, g3, g4, _⟩ := h.exit (C := fun y => dist y < 0) (by show dist x < 0; omega) (by show ¬ dist s < 0; rw [hD.s0]; omega)
    have := (hD.up u y g3 (by omega)).1
    omega

theorem Dist.next (hD : Dist out s dist) (h : OnCyc (EO out) s) : ∃ x, x ∈ out s ∧ 0 ≤ dist x := by
  obtain ⟨y, hy, h1, h2⟩ := h
  rcases h1.head with e | ⟨x, hx, hxy⟩
  · exact absurd e.symm hy
  · exact ⟨x, hx, hD.reach (hxy.trans h2)⟩

/-- The least distance so far, plus one. -/
def Mn (dist : Nat → Int) (K : List Nat) (z : Int) : Prop := (z = -1 ∧ ∀ x, x ∈ K → dist x < 0) ∨ (∃ x, x ∈ K ∧ 0 ≤ dist x ∧ z = dist x + 1 ∧ ∀ y, y ∈ K → 0 ≤ dist y → z ≤ dist y + 1)

theorem Mn.take {K : List Nat} {z : Int} (h : Mn dist K z) {x : Nat} (h0 : 0 ≤ dist x) (h1 : z < 0 ∨ dist x + 1 < z) : Mn dist (K ++ [x]) (dist x + 1) := by
  refine .inr ⟨x, by simp, h0, rfl, fun y hy hy0 => ?_⟩
  rcases List.mem_append.1 hy with hy | hy
  · rcases h with ⟨g1, g2⟩ | ⟨u, g1, g2, g3, g4⟩
    · have := g2 y hy; omega
    · have := g4 y hy hy0; omega
  · simp at hy; subst hy; omega

theorem Mn.leave {K : List Nat} {z : Int} (h : Mn dist K z) {x : Nat} (h1 : ¬ (0 ≤ dist x ∧ (z < 0 ∨ dist x + 1 < z))) : Mn dist (K ++ [x]) z := by
  rcases h with ⟨g1, g2⟩ | ⟨u, g1, g2, g3, g4⟩
  · refine .inl ⟨g1, fun y hy => ?_⟩
    rcases List.mem_append.1 hy with hy | hy
    · exact g2 y hy
    · simp at hy; subst hy; omega
  · refine .inr ⟨u, by simp [g1], g2, g3, fun y hy hy0 => ?_⟩
    rcases List.mem_append.1 hy with hy | hy
    · exact g4 y hy hy0
    · simp at hy; subst hy; omega

/-- The least so far at distance m. -/
def Lx (dist : Nat → Int) (K : List Nat) (m z : Int) : Prop := (z = -1 ∧ ∀ x, x ∈ K → dist x ≠ m) ∨ (∃ y : Nat, z = (y : Int) ∧ y ∈ K ∧ dist y = m ∧ ∀ x, x ∈ K → dist x = m → y ≤ x)

theorem Lx.take {K : List Nat} {m z : Int} (h : Lx dist K m z) {x : Nat} (h0 : dist x = m) (h1 : z < 0 ∨ (x : Int) < z) : Lx dist (K ++ [x]) m (x : Int) := by
  refine .inr ⟨x, rfl, by simp, h0, fun y hy hy0 => ?_⟩
  rcases List.mem_append.1 hy with hy | hy
  · rcases h with ⟨g1, g2⟩ | ⟨u, g1, g2, g3, g4⟩
    · exact absurd hy0 (g2 y hy)
    · have := g4 y hy hy0; omega
  · simp at hy; subst hy; omega

theorem Lx.leave {K : List Nat} {m z : Int} (h : Lx dist K m z) {x : Nat} (h1 : ¬ (dist x = m ∧ (z < 0 ∨ (x : Int) < z))) : Lx dist (K ++ [x]) m z := by
  rcases h with ⟨g1, g2⟩ | ⟨u, g1, g2, g3, g4⟩
  · refine .inl ⟨g1, fun y hy => ?_⟩
    rcases List.mem_append.1 hy with hy | hy
    · exact g2 y hy
    · simp at hy; subst hy; intro e; exact h1 ⟨e, .inl (by omega)⟩
  · refine .inr ⟨u, g1, by simp [g2], g3, fun y hy hy0 => ?_⟩
    rcases List.mem_append.1 hy with hy | hy
    · exact g4 y hy hy0
    · simp at hy; subst hy
      by_cases e : y < u
      · exact absurd ⟨hy0, .inr (by omega)⟩ h1
      · omega

/-- The greedy way so far. -/
structure Gw (out : Nat → List Nat) (dist : Nat → Int) (L s : Nat) (i : Nat) (ps : List Nat) : Prop where
  len : ps.length = i + 1
  first : ps.getD 0 0 = s
  step : ∀ q, q < i → Least out dist (ps.getD q 0) ((L : Int) - q - 1) (ps.getD (q + 1) 0)

theorem Gw.start (out : Nat → List Nat) (dist : Nat → Int) (L s : Nat) : Gw out dist L s 0 [s] := ⟨rfl, rfl, fun _ hq => absurd hq (Nat.not_lt_zero _)⟩

theorem Gw.add {L i y : Nat} {ps : List Nat} (h : Gw out dist L s i ps) (hl : Least out dist (ps.getD i 0) ((L : Int) - i - 1) y) : Gw out dist L s (i + 1) (ps ++ [y]) := by
  have hlen := h.len
  refine ⟨by simp [h.len], by rw [getD_append_left (by omega)]; exact h.first, fun q hq => ?_⟩
  by_cases e : q = i
  · subst e
    have e2 : (ps ++ [y]).getD (q + 1) 0 = y := by rw [← h.len]; exact getD_append_last _ _
    rw [e2, getD_append_left (by omega)]
    exact hl
  · rw [getD_append_left (by omega), getD_append_left (by omega)]
    exact h.step q (by omega)

/-- There is a next step. -/
theorem Gw.more {L i : Nat} {ps : List Nat} (h : Gw out dist L s i ps) (hD : Dist out s dist) (hi : i < L) (h0 : ∃ x, x ∈ out s ∧ dist x + 1 = (L : Int)) : ∃ x, x ∈ out (ps.getD i 0) ∧ dist x = (L : Int) - i - 1 := by
  by_cases e : i = 0
  · subst e
    obtain ⟨x, h1, h2⟩ := h0
    rw [h.first]
    exact ⟨x, h1, by omega⟩
  · obtain ⟨k, rfl⟩ : ∃ k, i = k + 1 := ⟨i - 1, by omega⟩
    have hd := (h.step k (by omega)).d
    have hne : ps.getD (k + 1) 0 ≠ s := fun e => by rw [e, hD.s0] at hd; omega
    obtain ⟨x, g1, g2, g3⟩ := hD.dn _ hne (by omega)
    exact ⟨x, g1, by omega⟩

theorem Gw.in_range {L i : Nat} {ps : List Nat} (h : Gw out dist L s i ps) (hs : s < n) (hin : ∀ i, i < n → ∀ y, y ∈ out i → y < n) : ∀ q, q ≤ i → ps.getD q 0 < n
  | 0, _ => by rw [h.first]; exact hs
  | q + 1, hq => hin _ (h.in_range hs hin q (by omega)) _ (h.step q (by omega)).e

/-- The tree's way is the greedy way. -/
theorem ways_agree {Q K : List Nat} {pi : Nat → Nat} {h Lc L : Nat} {par : Nat → Int} {t : Nat → Nat} {ps : List Nat} (hF : FInv out s Q pi h K par) (hlt : h < Q.length) (hback : EO out (Q.getD h 0) s) (hself : ∀ v, ¬ EO out v v) (hD : Dist out s dist) (hL2 : 2 ≤ L)
    (hLmin : ∀ w, EO out s w → 0 ≤ dist w → (L : Int) ≤ dist w + 1) (hG : Gw out dist L s L ps)
    (ht0 : t 0 = 0) (htL : t Lc = h) (hts : ∀ i, i < Lc → 0 < t (i + 1) ∧ pi (t (i + 1)) = t i) (htq : ∀ i, i ≤ Lc → t i < Q.length) :
    Lc + 1 = L ∧ (∀ i, i ≤ Lc → Q.getD (t i) 0 = ps.getD i 0) ∧ ps.getD L 0 = s := by
  obtain ⟨h1, t', e1, e2, e3, e4⟩ := bfs_best hF hlt hback hself hD hL2 hLmin (p := fun i => ps.getD i 0) hG.first (fun i hi => hG.step i (by omega))
  have hpi : ∀ j, 0 < j → j < Q.length → pi j < j := fun j h0 hj => (hF.pp j h0 hj).1
  have hlev : ∀ i, i ≤ Lc → lev pi (t i) = i := by
    intro i
    induction i with
    | zero => intro _; rw [ht0, lev_zero]
    | succ i ih =>
      intro hi
      obtain ⟨g1, g2⟩ := hts i (by omega)
      rw [lev_succ hpi g1 (htq _ hi), g2, ih (by omega)]
  have hLc : Lc + 1 = L := by
    have := hlev Lc (Nat.le_refl _)
    rw [htL] at this
    omega
  subst hLc
  have hsame : ∀ d, d ≤ Lc → t (Lc - d) = t' (Lc - d) := by
    intro d
    induction d with
    | zero => intro _; rw [Nat.sub_zero, htL]; exact e1.symm
    | succ d ih =>
      intro hd
      have e := ih (by omega)
      have a1 := (hts (Lc - (d + 1)) (by omega)).2
      have a2 := (e4 (Lc - (d + 1)) (by omega)).2
      rw [show Lc - (d + 1) + 1 = Lc - d by omega] at a1 a2
      rw [← a1, ← a2, e]
  refine ⟨rfl, fun i hi => ?_, ?_⟩
  · have := hsame (Lc - i) (by omega)
    rw [show Lc - (Lc - i) = i by omega] at this
    rw [this]
    exact (e3 i (by omega)).2
  · refine hD.zero _ ?_
    rw [(hG.step Lc (by omega)).d]
    omega

/-! ### A list of whole numbers in a block -/
def Bz (w : World) (b n : Nat) (zs : List Int) : Prop := zs.length ≤ n ∧ ∃ f, w.rowIs b 3 n f ∧ ∀ i, i < zs.length → f i = .int .i64 (zs.getD i 0)

theorem Bz.made (w : World) (n : Nat) : Bz (w.alloc (.cells (madeCells #[.int .i64 0] n) 3)) w.heap.size n [] := ⟨Nat.zero_le _, _, World.rowIs_made w _ n 3, fun _ hi => absurd hi (Nat.not_lt_zero _)⟩
theorem Bz.lt {w : World} {b n : Nat} {zs : List Int} (h : Bz w b n zs) : b < w.heap.size := by
  obtain ⟨h1, f, h2, h3⟩ := h
  exact h2.lt
theorem Bz.append {w : World} {b n : Nat} {zs : List Int} (h : Bz w b n zs) (hlt : zs.length < n) (z : Int) : Bz ((w.alloc (.cells #[.int .i64 z] 3)).setCell ⟨b, zs.length, Option.none⟩ (.int .i64 z)) b n (zs ++ [z]) := by
  obtain ⟨h1, f, h2, h3⟩ := h
  refine ⟨by simp; omega, _, (h2.alloc (.cells #[.int .i64 z] 3)).set zs.length _, fun i hi => ?_⟩
  by_cases e : i = zs.length
  · subst e; rw [if_pos rfl]; simp [List.getD_eq_getElem?_getD]
  · have hi' : i < zs.length := by simp at hi; omega
    rw [if_neg e, h3 i hi']
    simp [List.getD_eq_getElem?_getD, List.getElem?_append_left hi']
theorem Bz.run {w : World} {b n : Nat} {zs : List Int} (h : Bz w b n zs) (hlt : zs.length < n) (z : Int) :
    (Builtin.append_ #[22, 22] 22 #[.slice (some ⟨b, 0, Option.none⟩) zs.length n, .slice (some ⟨w.heap.size, 0, Option.none⟩) 1 1]).run Try.prog (w.alloc (.cells #[.int .i64 z] 3)) = .ok (.slice (some ⟨b, 0, Option.none⟩) (zs.length + 1) n) ((w.alloc (.cells #[.int .i64 z] 3)).setCell ⟨b, zs.length, Option.none⟩ (.int .i64 z)) := by
  obtain ⟨i0, hi, hz0, hz1, hz2⟩ := info_parts Try.info3
  obtain ⟨h1, f, h2', h3⟩ := h
  have h2 := h2'.alloc (.cells #[.int .i64 z] 3)
  have hcell : ∀ j, j < [Value.int .i64 z].length → ((w.alloc (.cells #[.int .i64 z] 3)).cell? ⟨b, 0 + zs.length * i0.size + j, Option.none⟩).isSome = true := fun j hj => by
    have : j = 0 := by simp at hj; omega
    subst this
    rw [hz1, Nat.mul_one, Nat.zero_add, Nat.add_zero, h2.cell hlt]; rfl
  have hrun := run_append_room_cells (P := Try.prog) (w.alloc (.cells #[.int .i64 z] 3)) 22 22 3 i0 Try.underlying22 hi b 0 zs.length n ⟨w.heap.size, 0, Option.none⟩ 1 1 [.int .i64 z] (by rw [hz1]; rfl)
    (fun j u hu => by
      cases j with
      | zero => cases hu; exact cell_new _ _ _ 0 rfl
      | succ j => simp at hu)
    (fun u hu => by
      cases hu with
      | head => rfl
      | tail _ h => cases h) hlt hcell
    (fun j hj => by
      have : j = 0 := by simp at hj; omega
      subst this
      rw [hz1, Nat.mul_one, Nat.zero_add, Nat.add_zero]
      exact h2.frozen _)
  rw [hz1, Nat.mul_one, Nat.zero_add] at hrun
  exact hrun
theorem Bz.slice {w : World} {b n : Nat} {zs : List Int} (h : Bz w b n zs) : SliceAt w (some ⟨b, 0, Option.none⟩) zs.length n (fun i => .int .i64 (zs.getD i 0)) := by
  obtain ⟨h1, f, h2, h3⟩ := h
  exact ⟨h1, fun e => (by cases e), fun _ => ⟨b, 0, rfl, fun i hi => by rw [Nat.zero_add, h2.cell (by omega), h3 i hi]⟩⟩

theorem SliceAt.at {w : World} {a : Option Addr} {n c : Nat} {f : Nat → Value} (h : SliceAt w a n c f) {i : Nat} (hi : i < n) : ∃ b off, a = some ⟨b, off, Option.none⟩ ∧ w.cell? ⟨b, off + i, Option.none⟩ = some (f i) := by
  obtain ⟨b, off, h1, h2⟩ := h.cells (by omega)
  exact ⟨b, off, h1, h2 i hi⟩
end Go.Proofs.Qxb6602460a
