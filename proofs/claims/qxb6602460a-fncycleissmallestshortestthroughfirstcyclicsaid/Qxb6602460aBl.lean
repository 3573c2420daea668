import Derived.Test.Qxb6602460aRev
namespace Go.Proofs.Qxb6602460a
open Go.RowKit Go.Maps Go.Own

/-- A list in a block of n cells: a slice that never outgrows what was made. -/
def Bl (w : World) (b n : Nat) (xs : List Nat) : Prop := xs.length ≤ n ∧ ∃ f, w.rowIs b 3 n f ∧ ∀ i, i < xs.length → f i = .int .i64 (xs.getD i 0 : Nat)

variable {w w' : World} {b n x : Nat} {xs : List Nat}

theorem Bl.of_block (h : Bl w b n xs) (e : w'.heap[b]? = w.heap[b]?) : Bl w' b n xs := by
  obtain ⟨h1, f, h2, h3⟩ := h
  exact ⟨h1, f, h2.of_block e, h3⟩
theorem Bl.lt (h : Bl w b n xs) : b < w.heap.size := by
  obtain ⟨h1, f, h2, h3⟩ := h
  exact h2.lt
theorem Bl.alloc (h : Bl w b n xs) (o : Obj) : Bl (w.alloc o) b n xs := by
  obtain ⟨h1, f, h2, h3⟩ := h
  exact ⟨h1, f, h2.alloc o, h3⟩
theorem Bl.setOther (h : Bl w b n xs) {p : Addr} (hp : b ≠ p.block) (v : Value) : Bl (w.setCell p v) b n xs := h.of_block (heap_setCell_other _ _ _ _ hp)
theorem Bl.cell (h : Bl w b n xs) {i : Nat} (hi : i < xs.length) : w.cell? ⟨b, i, Option.none⟩ = some (.int .i64 (xs.getD i 0 : Nat)) := by
  obtain ⟨h1, f, h2, h3⟩ := h
  rw [h2.cell (i := i) (by omega), h3 i hi]
theorem Bl.frozen (h : Bl w b n xs) (i : Nat) : w.frozen? ⟨b, i, Option.none⟩ = false := by
  obtain ⟨h1, f, h2, h3⟩ := h
  exact h2.frozen i
theorem Bl.made (w : World) (n : Nat) : Bl (w.alloc (.cells (madeCells #[.int .i64 0] n) 3)) w.heap.size n [] := ⟨Nat.zero_le _, _, World.rowIs_made w _ n 3, fun _ hi => absurd hi (Nat.not_lt_zero _)⟩
theorem Bl.cut {ys : List Nat} (h : Bl w b n (xs ++ ys)) : Bl w b n xs := by
  obtain ⟨h1, f, h2, h3⟩ := h
  rw [List.length_append] at h1
  exact ⟨by omega, f, h2, fun i hi => by rw [h3 i (by rw [List.length_append]; omega), getD_append_left hi]⟩
theorem Bl.set {y : Nat} (h : Bl w b n (xs ++ [x])) {z : Int} (hz : z = (y : Nat)) : Bl (w.setCell ⟨b, xs.length, Option.none⟩ (.int .i64 z)) b n (xs ++ [y]) := by
  subst hz
  obtain ⟨h1, f, h2, h3⟩ := h
  rw [List.length_append] at h1
  refine ⟨by rw [List.length_append]; exact h1, _, h2.set xs.length _, fun i hi => ?_⟩
  by_cases e : i = xs.length
  · subst e; rw [if_pos rfl, getD_append_last]
  · have hi' : i < xs.length := by simp at hi; omega
    rw [if_neg e, h3 i (by simp; omega), getD_append_left hi', getD_append_left hi']
theorem Bl.append (h : Bl w b n xs) (hlt : xs.length < n) {z : Int} (hz : z = (x : Nat)) : Bl ((w.alloc (.cells #[.int .i64 z] 3)).setCell ⟨b, xs.length, Option.none⟩ (.int .i64 z)) b n (xs ++ [x]) := by
  subst hz
  obtain ⟨h1, f, h2, h3⟩ := h.alloc (.cells #[.int .i64 ((x : Nat) : Int)] 3)
  refine ⟨by simp; omega, _, h2.set xs.length _, fun i hi => ?_⟩
  by_cases e : i = xs.length
  · subst e; rw [if_pos rfl, getD_append_last]
  · have hi' : i < xs.length := by simp at hi; omega
    rw [if_neg e, h3 i hi', getD_append_left hi']
theorem Bl.run (h : Bl w b n xs) (hlt : xs.length < n) (z : Int) :
    (Builtin.append_ #[22, 22] 22 #[.slice (some ⟨b, 0, Option.none⟩) xs.length n, .slice (some ⟨w.heap.size, 0, Option.none⟩) 1 1]).run Try.prog (w.alloc (.cells #[.int .i64 z] 3)) = .ok (.slice (some ⟨b, 0, Option.none⟩) (xs.length + 1) n) ((w.alloc (.cells #[.int .i64 z] 3)).setCell ⟨b, xs.length, Option.none⟩ (.int .i64 z)) := by
  obtain ⟨i0, hi, hz0, hz1, hz2⟩ := info_parts Try.info3
  obtain ⟨h1, f, h2, h3⟩ := h.alloc (.cells #[.int .i64 z] 3)
  have hcell : ∀ j, j < [Value.int .i64 z].length → ((w.alloc (.cells #[.int .i64 z] 3)).cell? ⟨b, 0 + xs.length * i0.size + j, Option.none⟩).isSome = true := fun j hj => by
    have : j = 0 := by simp at hj; omega
    subst this
    rw [hz1, Nat.mul_one, Nat.zero_add, Nat.add_zero, h2.cell hlt]; rfl
  have hrun := run_append_room_cells (P := Try.prog) (w.alloc (.cells #[.int .i64 z] 3)) 22 22 3 i0 Try.underlying22 hi b 0 xs.length n ⟨w.heap.size, 0, Option.none⟩ 1 1 [.int .i64 z] (by rw [hz1]; rfl)
    (fun j u hu => by
      cases j with
      | zero => cases hu; exact cell_new _ _ _ 0 rfl
      | succ j => simp at hu)
    (fun u hu => by
      cases hu with
      | head => rfl
      | tail _ h => cases h) hlt hcell
    (fun j hj => by
      have : j = 0 := by simp at hj; omega
      subst this
      rw [hz1, Nat.mul_one, Nat.zero_add, Nat.add_zero]
      exact h2.frozen _)
  rw [hz1, Nat.mul_one, Nat.zero_add] at hrun
  exact hrun
theorem make0 (n : Nat) (hn : n ≤ 1048576) (w : World) : (Instr.makeSlice 22 (.int .i64 0) (.int .i64 (n : Nat))).run Try.prog w = .ok (.slice (some ⟨w.heap.size, 0, Option.none⟩) 0 n) (w.alloc (.cells (madeCells #[.int .i64 0] n) 3)) := by
  obtain ⟨i0, hi, hz0, hz1, hz2⟩ := info_parts Try.info3
  have hr := run_make (P := Try.prog) w 22 3 i0 (.int .i64 0) Try.underlying22 hi hz0 .i64 .i64 0 (n : Int) (Int.le_refl _) (by omega) (by rw [hz2]; omega) (by omega)
  rw [hz1, show (Value.int .i64 0).cells = #[.int .i64 0] from rfl] at hr
  simpa using hr

/-! ### Sums -/
def sumf (f : Nat → Nat) : List Nat → Nat
  | [] => 0
  | a :: l => f a + sumf f l
theorem sumf_append (f : Nat → Nat) : ∀ (l m : List Nat), sumf f (l ++ m) = sumf f l + sumf f m
  | [], m => by simp [sumf]
  | a :: l, m => by simp only [List.cons_append, sumf, sumf_append f l m]; omega
def tot (f : Nat → Nat) : Nat → Nat
  | 0 => 0
  | n + 1 => tot f n + f n
theorem sumf_erase (f : Nat → Nat) {a : Nat} : ∀ {l : List Nat}, a ∈ l → sumf f l = f a + sumf f (l.erase a)
  | b :: l, h => by
    by_cases e : b = a
    · subst e; simp [sumf]
    · have h' : a ∈ l := by
        rcases List.mem_cons.1 h with h | h
        · exact absurd h.symm e
        · exact h
      rw [List.erase_cons_tail (by simpa using e)]
      simp only [sumf]
      rw [sumf_erase f h']
      omega
theorem sumf_le (f : Nat → Nat) : ∀ (n : Nat) (Q : List Nat), Q.Nodup → (∀ x, x ∈ Q → x < n) → sumf f Q ≤ tot f n
  | 0, [], _, _ => Nat.le_refl _
  | 0, a :: l, _, h => absurd (h a (List.mem_cons_self ..)) (Nat.not_lt_zero _)
  | n + 1, Q, hn, h => by
    by_cases hm : n ∈ Q
    · have h1 := sumf_le f n (Q.erase n) (hn.erase n) (fun x hx => by
        obtain ⟨h1, h2⟩ := hn.mem_erase_iff.1 hx
        have := h x h2
        omega)
      rw [sumf_erase f hm]
      simp only [tot]
      omega
    · have h1 := sumf_le f n Q hn (fun x hx => by
        have := h x hx
        have : x ≠ n := fun e => hm (e ▸ hx)
        omega)
      simp only [tot]
      omega
theorem sumf_pw (f : Nat → Nat) : ∀ (sn sx : List Nat), sn.length = sx.length → (∀ i, i < sn.length → sx.getD i 0 ≤ f (sn.getD i 0)) → sumf id sx ≤ sumf f sn
  | [], [], _, _ => Nat.le_refl _
  | [], _ :: _, h, _ => by simp at h
  | _ :: _, [], h, _ => by simp at h
  | a :: l, b :: m, h, hp => by
    have h0 : b ≤ f a := hp 0 (by simp)
    have h1 := sumf_pw f l m (by simpa using h) (fun i hi => by
      have := hp (i + 1) (by simp; omega)
      simpa [List.getD_eq_getElem?_getD] using this)
    simp only [sumf]
    have : id b = b := rfl
    omega
end Go.Proofs.Qxb6602460a
