import Derived.Test.Qxb6602460aPath
import Derived.ArgAppend
import Derived.Deep.Onto
import Derived.Deep.LoopGhost
namespace Go.Proofs.Qxb6602460a
open Go.RowKit Go.Maps Go.Own

/-- A queue: a slice anywhere in a block of the call's own. -/
def Qu (w : World) (base : Nat) (b off cap : Nat) (xs : List Nat) : Prop :=
  base ≤ b ∧ xs.length ≤ cap ∧ (∀ j, j < xs.length → w.cell? ⟨b, off + j, Option.none⟩ = some (.int .i64 (xs.getD j 0 : Nat))) ∧ (∀ j, j < cap → (w.cell? ⟨b, off + j, Option.none⟩).isSome = true ∧ w.frozen? ⟨b, off + j, Option.none⟩ = false)

theorem Qu.of_block {w w' : World} {base b off cap : Nat} {xs : List Nat} (h : Qu w base b off cap xs) (e : w'.heap[b]? = w.heap[b]?) : Qu w' base b off cap xs :=
  ⟨h.1, h.2.1, fun j hj => (World.cell?_of_block (a := ⟨b, off + j, Option.none⟩) e).trans (h.2.2.1 j hj), fun j hj => by
    rw [World.cell?_of_block (a := ⟨b, off + j, Option.none⟩) e, World.frozen?_of_block (a := ⟨b, off + j, Option.none⟩) e]
    exact h.2.2.2 j hj⟩

theorem Qu.own {w : World} {base b cap : Nat} {xs : List Nat} (h : OwnI w base (.slice (some ⟨b, 0, Option.none⟩) xs.length cap) xs) : Qu w base b 0 cap xs := by
  have hc := fun i (hi : i < xs.length) => OwnI.cell h hi
  rcases h.2 with ⟨e, _⟩ | ⟨g, cap', cur, e, hb, hg, hle, hm, hs, ht⟩
  · cases e
  · cases e
    refine ⟨hb, hle, fun j hj => by rw [Nat.zero_add]; exact hc j hj, fun j hj => ?_⟩
    rw [Nat.zero_add]
    have hlt : j < cur.size := by omega
    exact ⟨by simp [World.cell?, hg, hlt], by simp [World.frozen?, hg]⟩

theorem Qu.tail {w : World} {base b off cap x : Nat} {xs : List Nat} (h : Qu w base b off cap (x :: xs)) : Qu w base b (off + 1) (cap - 1) xs := by
  have hl : xs.length + 1 ≤ cap := h.2.1
  refine ⟨h.1, by omega, fun j hj => ?_, fun j hj => ?_⟩
  · have := h.2.2.1 (j + 1) (by simp; omega)
    rw [show off + 1 + j = off + (j + 1) by omega, this]
    simp [List.getD_eq_getElem?_getD]
  · rw [show off + 1 + j = off + (j + 1) by omega]
    exact h.2.2.2 (j + 1) (by omega)

theorem Qu.empty {w : World} {base b off cap x : Nat} {xs : List Nat} (h : Qu w base b off cap (x :: xs)) (hc : cap = 1) : xs = [] ∧ Qu w base b off 0 xs := by
  have hl : xs.length + 1 ≤ cap := h.2.1
  have : xs = [] := List.length_eq_zero_iff.1 (by omega)
  subst this
  exact ⟨rfl, h.1, Nat.le_refl _, fun j hj => absurd hj (Nat.not_lt_zero _), fun j hj => absurd hj (Nat.not_lt_zero _)⟩

theorem Qu.append {w : World} {base b off cap : Nat} {xs : List Nat} (x : Nat) (ty : TypeId) (h : Qu w base b off cap xs) (hb : base ≤ w.heap.size) (hblt : b < w.heap.size) (hl : xs.length ≤ 1048576) :
    ∃ b' off' c' w', (Builtin.append_ #[22, 22] ty #[.slice (some ⟨b, off, Option.none⟩) xs.length cap, .slice (some ⟨w.heap.size, 0, Option.none⟩) 1 1]).run Try.prog (w.alloc (.cells #[.int .i64 (x : Nat)] 3)) = .ok (.slice (some ⟨b', off', Option.none⟩) (xs.length + 1) c') w' ∧ Qu w' base b' off' c' (xs ++ [x]) ∧ b' < w'.heap.size ∧ Below base w w' := by
  have hb1 : Below w.heap.size w (w.alloc (.cells #[.int .i64 (x : Nat)] 3)) := (Below.refl _ _).alloc (Nat.le_refl _) _
  have hcn := cell_new w #[.int .i64 (x : Nat)] 3 0 rfl
  have h1 : Qu (w.alloc (.cells #[.int .i64 (x : Nat)] 3)) base b off cap xs := h.of_block (hb1.block b hblt)
  obtain ⟨i0, hi, hz0, hz1, hz2⟩ := info_parts Try.info3
  have hnews : ∀ (j : Nat) (u : Value), [Value.int .i64 (x : Nat)][j]? = some u → (w.alloc (.cells #[.int .i64 (x : Nat)] 3)).cell? ((⟨w.heap.size, 0, Option.none⟩ : Addr).add j) = some u := fun j u hu => by
    cases j with
    | zero => cases hu; exact hcn
    | succ j => simp at hu
  by_cases hr : xs.length + 1 ≤ cap
  · have hrun := run_append_room_cells (P := Try.prog) (w.alloc (.cells #[.int .i64 (x : Nat)] 3)) 22 ty 3 i0 Try.underlying22 hi b off xs.length cap ⟨w.heap.size, 0, Option.none⟩ 1 1 [.int .i64 (x : Nat)] (by rw [hz1]; rfl) hnews
      (fun u hu => by
        cases hu with
        | head => rfl
        | tail _ h => cases h) hr
      (fun j hj => by
        have : j = 0 := by simp at hj; omega
        subst this
        rw [hz1]
        exact (h1.2.2.2 (xs.length * 1 + 0) (by omega)).1)
      (fun j hj => by
        have : j = 0 := by simp at hj; omega
        subst this
        rw [hz1]
        exact (h1.2.2.2 (xs.length * 1 + 0) (by omega)).2)
    rw [hz1, Nat.mul_one] at hrun
    have es : ∀ (W : World) (o : Nat) (v : Value), W.setCells b o [v] = W.setCell ⟨b, o, Option.none⟩ v := fun W o v => by simp [World.setCells]
    rw [es] at hrun
    refine ⟨b, off, cap, _, hrun, ⟨h1.1, by simp; omega, fun j hj => ?_, fun j hj => ?_⟩, by simpa using (Nat.lt_succ_of_lt hblt), (hb1.mono hb).setCell h1.1 _⟩
    · by_cases e : j = xs.length
      · subst e
        obtain ⟨u, hu⟩ := Option.isSome_iff_exists.1 (h1.2.2.2 xs.length (by omega)).1
        rw [World.cell?_setCell_same _ _ _ hu, getD_append_last]
      · have hj' : j < xs.length := by simp at hj; omega
        rw [World.cell?_setCell_other _ _ _ _ (by intro e; injection e with _ e2 _; omega), getD_append_left hj']
        exact h1.2.2.1 j hj'
    · rw [World.frozen?_setCell]
      refine ⟨?_, (h1.2.2.2 j hj).2⟩
      by_cases e : j = xs.length
      · subst e
        obtain ⟨u, hu⟩ := Option.isSome_iff_exists.1 (h1.2.2.2 xs.length (by omega)).1
        rw [World.cell?_setCell_same _ _ _ hu]; rfl
      · rw [World.cell?_setCell_other _ _ _ _ (by intro e; injection e with _ e2 _; omega)]
        exact (h1.2.2.2 j hj).1
  · have hrun := run_append_arg_grows (P := Try.prog) (w.alloc (.cells #[.int .i64 (x : Nat)] 3)) 22 ty 3 i0 (.int .i64 0) 1 8 Try.underlying22 hi hz0 hz1 hz2 rfl (by decide) ⟨b, off, Option.none⟩ xs.length cap (iv xs) (by simp [iv])
      (fun j u hu => by
        have hj : j < xs.length := by
          rcases Nat.lt_or_ge j xs.length with h | h
          · exact h
          · rw [List.getElem?_eq_none (by simpa [iv] using h)] at hu; cases hu
        rw [add_none, h1.2.2.1 j hj, ← hu]
        simp [iv, List.getD_eq_getElem?_getD, hj]) ⟨w.heap.size, 0, Option.none⟩ 1 1 [.int .i64 (x : Nat)] rfl hnews (by omega) (by simp only [maxLen]; omega) (by omega)
    obtain ⟨v', w', hrun, ho, hg⟩ := hrun
    have hsz : w.heap.size ≤ (w.alloc (.cells #[.int .i64 (x : Nat)] 3)).heap.size := hb1.size
    have ho' : OwnI w' base v' (xs ++ [x]) := by
      unfold OwnI
      rw [List.length_append, show iv (xs ++ [x]) = iv xs ++ [.int .i64 (x : Nat)] by simp [iv]]
      exact World.ownsRow.mono ho (Nat.le_trans hb hsz)
    have hbel : Below base w w' := (hb1.mono hb).trans (grown_below hg (Nat.le_trans hb hsz) (fun k e => by cases e))
    obtain ⟨a, c, rfl, h0, h3, -⟩ := ho'.form
    cases a with
    | none => exact absurd (h0 rfl) (by simp)
    | some p =>
      have hlt := World.ownsRow.lt ho' p.block rfl
      rcases ho'.2 with ⟨e, _⟩ | ⟨g, cap', cur, e, _⟩
      · cases e
      · cases e
        have hq := Qu.own ho'
        rw [show (xs ++ [x]).length = xs.length + 1 by simp] at hrun
        exact ⟨_, _, _, _, hrun, hq, hlt.2, hbel⟩
end Go.Proofs.Qxb6602460a
