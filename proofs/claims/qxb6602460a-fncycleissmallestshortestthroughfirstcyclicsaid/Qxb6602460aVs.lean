import Derived.Test.Qxb6602460aGuards
import Derived.Test.Qxb6602460aBfs
import Derived.Maps.AppendAt
import Derived.Lib.AppendZeros
import Derived.OwnWalk
import Derived.Laws.OwnMore
import Derived.Deep.RegionHeld3
namespace Go.Proofs.Qxb6602460a
open Go.RowKit Go.Maps Go.Own

theorem below_drewN' {B : Nat} {w w' : World} (h : Below B w w') (j : Nat) : Below B w (w'.drewN j) := ⟨h.os, h.tape, h.output, h.size, h.block⟩

theorem grown_below {w w' : World} {row : Option Nat} {B : Nat} (hg : w.grownBy w' row) (hB : B ≤ w.heap.size) (hr : ∀ k, row = some k → B ≤ k) : Below B w w' :=
  ⟨hg.os, hg.tape, hg.output, hg.size, fun k hk => hg.block k (by omega) (fun e => by have := hr k e.symm; omega)⟩

theorem add_none (b off i : Nat) : Addr.add ⟨b, off, Option.none⟩ i = ⟨b, off + i, Option.none⟩ := by unfold Addr.add; split <;> simp_all

/-! ### A slice of integers that the call itself has made -/
def iv (xs : List Nat) : List Value := xs.map (fun x => .int .i64 ((x : Nat) : Int))
def OwnI (w : World) (base : Nat) (v : Value) (xs : List Nat) : Prop := w.ownsRow base 3 1 v xs.length (iv xs)

theorem OwnI.nil (w : World) (base : Nat) : OwnI w base (.slice Option.none 0 0) [] := World.ownsRow_nil w base 3 1

theorem append_int {w : World} {base : Nat} {v : Value} {xs : List Nat} (x : Nat) (b : Nat) (ty : TypeId) (h : OwnI w base v xs) (hb : base ≤ w.heap.size) (hs : w.cell? ⟨b, 0, Option.none⟩ = some (.int .i64 (x : Nat))) (hl : xs.length ≤ 1048576) :
    ∃ v' w', (Builtin.append_ #[22, 22] ty #[v, .slice (some ⟨b, 0, Option.none⟩) 1 1]).run Try.prog w = .ok v' w' ∧ OwnI w' base v' (xs ++ [x]) ∧ w.grownBy w' v.ownBlock := by
  obtain ⟨i0, hi, hz0, hz1, hz2⟩ := info_parts Try.info3
  obtain ⟨v', w', hr, h2, h3, -, -⟩ := run_append_own_at (P := Try.prog) w base 22 ty 3 i0 (.int .i64 0) 1 8 Try.underlying22 hi hz0 hz1 hz2 rfl (by decide) v xs.length (iv xs) h ⟨b, 0, Option.none⟩ 1 1 [.int .i64 (x : Nat)] rfl
    (fun j u hu => by
      cases j with
      | zero => cases hu; exact hs
      | succ j => simp at hu)
    (fun u hu => by
      cases hu with
      | head => rfl
      | tail _ h => cases h) (by simp only [maxLen]; omega) (by omega) hb
  refine ⟨v', w', hr, ?_, h3⟩
  unfold OwnI
  rw [List.length_append, show iv (xs ++ [x]) = iv xs ++ [.int .i64 (x : Nat)] by simp [iv]]
  exact h2

theorem OwnI.form {w : World} {base : Nat} {v : Value} {xs : List Nat} (h : OwnI w base v xs) : ∃ a c, v = .slice a xs.length c ∧ (a = Option.none → xs = []) ∧ (∀ b off, a = some ⟨b, off, Option.none⟩ → base ≤ b ∧ off = 0) ∧ SliceAt w a xs.length c (fun i => .int .i64 (xs.getD i 0 : Nat)) := by
  have hc := fun g hg => World.ownsRow.cells (g := g) h hg
  rcases h.2 with ⟨rfl, h0⟩ | ⟨g, cap, cur, rfl, hb, hg, hle, hm, hs, ht⟩
  · exact ⟨Option.none, 0, by rw [h0], fun _ => List.length_eq_zero_iff.1 h0, fun b off e => (by cases e), ⟨by omega, fun _ => rfl, fun hn => absurd hn (by omega)⟩⟩
  · refine ⟨_, cap, rfl, fun e => (by cases e), fun b off e => (by cases e; exact ⟨hb, rfl⟩), ⟨hle, fun e => (by cases e), fun hn => ⟨g, 0, rfl, fun i hi => ?_⟩⟩⟩
    have := hc g rfl i (.int .i64 (xs.getD i 0 : Nat)) (by simp [iv, List.getD_eq_getElem?_getD, hi])
    rw [add_none] at this
    exact this

/-! ### The search's state, as the program holds it -/
structure VS (w : World) (H n : Nat) (F : Value) (na oa : Option Addr) (nc oc : Nat) (s : TS) : Prop where
  g : w.rowIs H 51 2 (fun i => if i = 0 then .slice na n nc else .slice oa n oc)
  ro : w.rowIs (H + 1) 3 n (fun i => .int .i64 (s.ord i : Nat))
  bo : w.rowIs (H + 2) 22 1 (fun _ => .slice (some ⟨H + 1, 0, Option.none⟩) n n)
  rl : w.rowIs (H + 3) 3 n (fun i => .int .i64 (s.low i : Nat))
  bl : w.rowIs (H + 4) 22 1 (fun _ => .slice (some ⟨H + 3, 0, Option.none⟩) n n)
  rt : w.rowIs (H + 5) 4 n (fun i => .bool (s.onS i))
  bt : w.rowIs (H + 6) 28 1 (fun _ => .slice (some ⟨H + 5, 0, Option.none⟩) n n)
  rc : w.rowIs (H + 7) 4 n (fun i => .bool (s.cyc i))
  bc : w.rowIs (H + 8) 28 1 (fun _ => .slice (some ⟨H + 7, 0, Option.none⟩) n n)
  bs : w.rowIs (H + 10) 3 1 (fun _ => .int .i64 (s.step : Nat))
  bf : w.rowIs (H + 11) 59 1 (fun _ => F)
  bk : ∃ v, w.rowIs (H + 9) 22 1 (fun _ => v) ∧ OwnI w (H + 12) v s.stk
  hs : H + 12 ≤ w.heap.size

variable {w : World} {H n : Nat} {F : Value} {na oa : Option Addr} {nc oc : Nat} {s : TS}

theorem upd_row (f : Nat → Nat) (k v i : Nat) : (if i = k then Value.int .i64 ((v : Nat) : Int) else .int .i64 (f i : Nat)) = .int .i64 (updN f k v i : Nat) := by
  by_cases e : i = k
  · subst e; rw [if_pos rfl, updN_same]
  · rw [if_neg e, updN_other _ _ e]
theorem upd_rowB (f : Nat → Bool) (k i : Nat) (v : Bool) : (if i = k then Value.bool v else .bool (f i)) = .bool (updB f k v i) := by
  by_cases e : i = k
  · subst e; rw [if_pos rfl, updB_same]
  · rw [if_neg e, updB_other _ _ e]

theorem VS.setStep (h : VS w H n F na oa nc oc s) (k : Nat) : VS (w.setCell ⟨(H + 10), 0, Option.none⟩ (.int .i64 (k : Nat))) H n F na oa nc oc ⟨s.ord, s.low, s.onS, s.cyc, s.stk, k⟩ :=
  ⟨h.g.of_block (heap_setCell_other _ _ _ _ (by simp)), h.ro.of_block (heap_setCell_other _ _ _ _ (by simp)), h.bo.of_block (heap_setCell_other _ _ _ _ (by simp)), h.rl.of_block (heap_setCell_other _ _ _ _ (by simp)), h.bl.of_block (heap_setCell_other _ _ _ _ (by simp)), h.rt.of_block (heap_setCell_other _ _ _ _ (by simp)), h.bt.of_block (heap_setCell_other _ _ _ _ (by simp)), h.rc.of_block (heap_setCell_other _ _ _ _ (by simp)), h.bc.of_block (heap_setCell_other _ _ _ _ (by simp)), (h.bs.set 0 _).congr fun i hi => if_pos (by omega), h.bf.of_block (heap_setCell_other _ _ _ _ (by simp)), (by obtain ⟨v, h1, h2⟩ := h.bk; exact ⟨v, h1.of_block (heap_setCell_other _ _ _ _ (by simp)), ownsRow_setCell_below h2 (by simp) _⟩), by simpa using h.hs⟩

theorem VS.setOrd (h : VS w H n F na oa nc oc s) (x k : Nat) : VS (w.setCell ⟨(H + 1), x, Option.none⟩ (.int .i64 (k : Nat))) H n F na oa nc oc ⟨updN s.ord x k, s.low, s.onS, s.cyc, s.stk, s.step⟩ :=
  ⟨h.g.of_block (heap_setCell_other _ _ _ _ (by simp)), (h.ro.set x _).congr fun i hi => upd_row s.ord x k i, h.bo.of_block (heap_setCell_other _ _ _ _ (by simp)), h.rl.of_block (heap_setCell_other _ _ _ _ (by simp)), h.bl.of_block (heap_setCell_other _ _ _ _ (by simp)), h.rt.of_block (heap_setCell_other _ _ _ _ (by simp)), h.bt.of_block (heap_setCell_other _ _ _ _ (by simp)), h.rc.of_block (heap_setCell_other _ _ _ _ (by simp)), h.bc.of_block (heap_setCell_other _ _ _ _ (by simp)), h.bs.of_block (heap_setCell_other _ _ _ _ (by simp)), h.bf.of_block (heap_setCell_other _ _ _ _ (by simp)), (by obtain ⟨v, h1, h2⟩ := h.bk; exact ⟨v, h1.of_block (heap_setCell_other _ _ _ _ (by simp)), ownsRow_setCell_below h2 (by simp) _⟩), by simpa using h.hs⟩

theorem VS.setLow (h : VS w H n F na oa nc oc s) (x k : Nat) : VS (w.setCell ⟨(H + 3), x, Option.none⟩ (.int .i64 (k : Nat))) H n F na oa nc oc ⟨s.ord, updN s.low x k, s.onS, s.cyc, s.stk, s.step⟩ :=
  ⟨h.g.of_block (heap_setCell_other _ _ _ _ (by simp)), h.ro.of_block (heap_setCell_other _ _ _ _ (by simp)), h.bo.of_block (heap_setCell_other _ _ _ _ (by simp)), (h.rl.set x _).congr fun i hi => upd_row s.low x k i, h.bl.of_block (heap_setCell_other _ _ _ _ (by simp)), h.rt.of_block (heap_setCell_other _ _ _ _ (by simp)), h.bt.of_block (heap_setCell_other _ _ _ _ (by simp)), h.rc.of_block (heap_setCell_other _ _ _ _ (by simp)), h.bc.of_block (heap_setCell_other _ _ _ _ (by simp)), h.bs.of_block (heap_setCell_other _ _ _ _ (by simp)), h.bf.of_block (heap_setCell_other _ _ _ _ (by simp)), (by obtain ⟨v, h1, h2⟩ := h.bk; exact ⟨v, h1.of_block (heap_setCell_other _ _ _ _ (by simp)), ownsRow_setCell_below h2 (by simp) _⟩), by simpa using h.hs⟩

theorem VS.setOn (h : VS w H n F na oa nc oc s) (x : Nat) (b : Bool) : VS (w.setCell ⟨(H + 5), x, Option.none⟩ (.bool b)) H n F na oa nc oc ⟨s.ord, s.low, updB s.onS x b, s.cyc, s.stk, s.step⟩ :=
  ⟨h.g.of_block (heap_setCell_other _ _ _ _ (by simp)), h.ro.of_block (heap_setCell_other _ _ _ _ (by simp)), h.bo.of_block (heap_setCell_other _ _ _ _ (by simp)), h.rl.of_block (heap_setCell_other _ _ _ _ (by simp)), h.bl.of_block (heap_setCell_other _ _ _ _ (by simp)), (h.rt.set x _).congr fun i hi => upd_rowB s.onS x i b, h.bt.of_block (heap_setCell_other _ _ _ _ (by simp)), h.rc.of_block (heap_setCell_other _ _ _ _ (by simp)), h.bc.of_block (heap_setCell_other _ _ _ _ (by simp)), h.bs.of_block (heap_setCell_other _ _ _ _ (by simp)), h.bf.of_block (heap_setCell_other _ _ _ _ (by simp)), (by obtain ⟨v, h1, h2⟩ := h.bk; exact ⟨v, h1.of_block (heap_setCell_other _ _ _ _ (by simp)), ownsRow_setCell_below h2 (by simp) _⟩), by simpa using h.hs⟩

theorem VS.setCyc (h : VS w H n F na oa nc oc s) (x : Nat) (b : Bool) : VS (w.setCell ⟨(H + 7), x, Option.none⟩ (.bool b)) H n F na oa nc oc ⟨s.ord, s.low, s.onS, updB s.cyc x b, s.stk, s.step⟩ :=
  ⟨h.g.of_block (heap_setCell_other _ _ _ _ (by simp)), h.ro.of_block (heap_setCell_other _ _ _ _ (by simp)), h.bo.of_block (heap_setCell_other _ _ _ _ (by simp)), h.rl.of_block (heap_setCell_other _ _ _ _ (by simp)), h.bl.of_block (heap_setCell_other _ _ _ _ (by simp)), h.rt.of_block (heap_setCell_other _ _ _ _ (by simp)), h.bt.of_block (heap_setCell_other _ _ _ _ (by simp)), (h.rc.set x _).congr fun i hi => upd_rowB s.cyc x i b, h.bc.of_block (heap_setCell_other _ _ _ _ (by simp)), h.bs.of_block (heap_setCell_other _ _ _ _ (by simp)), h.bf.of_block (heap_setCell_other _ _ _ _ (by simp)), (by obtain ⟨v, h1, h2⟩ := h.bk; exact ⟨v, h1.of_block (heap_setCell_other _ _ _ _ (by simp)), ownsRow_setCell_below h2 (by simp) _⟩), by simpa using h.hs⟩

theorem VS.setStk (h : VS w H n F na oa nc oc s) {v : Value} {xs : List Nat} (ho : OwnI w (H + 12) v xs) : VS (w.setCell ⟨H + 9, 0, Option.none⟩ v) H n F na oa nc oc ⟨s.ord, s.low, s.onS, s.cyc, xs, s.step⟩ :=
  ⟨h.g.of_block (heap_setCell_other _ _ _ _ (by simp)), h.ro.of_block (heap_setCell_other _ _ _ _ (by simp)), h.bo.of_block (heap_setCell_other _ _ _ _ (by simp)), h.rl.of_block (heap_setCell_other _ _ _ _ (by simp)), h.bl.of_block (heap_setCell_other _ _ _ _ (by simp)), h.rt.of_block (heap_setCell_other _ _ _ _ (by simp)), h.bt.of_block (heap_setCell_other _ _ _ _ (by simp)), h.rc.of_block (heap_setCell_other _ _ _ _ (by simp)), h.bc.of_block (heap_setCell_other _ _ _ _ (by simp)), h.bs.of_block (heap_setCell_other _ _ _ _ (by simp)), h.bf.of_block (heap_setCell_other _ _ _ _ (by simp)), (by obtain ⟨v0, h1, h2⟩ := h.bk; exact ⟨v, (h1.set 0 _).congr fun i hi => if_pos (by omega), ownsRow_setCell_below ho (by simp) _⟩), by simpa using h.hs⟩

/-- New blocks, and one of the stack's own, leave all but the stack as it was. -/
theorem VS.grown (h : VS w H n F na oa nc oc s) {w' : World} {row : Option Nat} (hg : w.grownBy w' row) (hr : ∀ k, row = some k → H + 12 ≤ k) {v : Value} {xs : List Nat} (hv : w'.rowIs (H + 9) 22 1 (fun _ => v)) (ho : OwnI w' (H + 12) v xs) : VS w' H n F na oa nc oc ⟨s.ord, s.low, s.onS, s.cyc, xs, s.step⟩ :=
  ⟨h.g.of_block (hg.block _ (by have := h.hs; omega) (fun e => by have := hr _ e.symm; omega)), h.ro.of_block (hg.block _ (by have := h.hs; omega) (fun e => by have := hr _ e.symm; omega)), h.bo.of_block (hg.block _ (by have := h.hs; omega) (fun e => by have := hr _ e.symm; omega)), h.rl.of_block (hg.block _ (by have := h.hs; omega) (fun e => by have := hr _ e.symm; omega)), h.bl.of_block (hg.block _ (by have := h.hs; omega) (fun e => by have := hr _ e.symm; omega)), h.rt.of_block (hg.block _ (by have := h.hs; omega) (fun e => by have := hr _ e.symm; omega)), h.bt.of_block (hg.block _ (by have := h.hs; omega) (fun e => by have := hr _ e.symm; omega)), h.rc.of_block (hg.block _ (by have := h.hs; omega) (fun e => by have := hr _ e.symm; omega)), h.bc.of_block (hg.block _ (by have := h.hs; omega) (fun e => by have := hr _ e.symm; omega)), h.bs.of_block (hg.block _ (by have := h.hs; omega) (fun e => by have := hr _ e.symm; omega)), h.bf.of_block (hg.block _ (by have := h.hs; omega) (fun e => by have := hr _ e.symm; omega)), ⟨v, hv, ho⟩, Nat.le_trans h.hs hg.size⟩

/-- The stack's box gets a new slice behind a growth of the memory. -/
theorem VS.pushed (h : VS w H n F na oa nc oc s) {w' : World} (hb : Below (H + 12) w w') {v : Value} {xs : List Nat} (ho : OwnI w' (H + 12) v xs) : VS (w'.setCell ⟨H + 9, 0, Option.none⟩ v) H n F na oa nc oc ⟨s.ord, s.low, s.onS, s.cyc, xs, s.step⟩ :=
  ⟨h.g.of_block ((heap_setCell_other _ _ _ _ (by simp)).trans (hb.block _ (by omega))), h.ro.of_block ((heap_setCell_other _ _ _ _ (by simp)).trans (hb.block _ (by omega))), h.bo.of_block ((heap_setCell_other _ _ _ _ (by simp)).trans (hb.block _ (by omega))), h.rl.of_block ((heap_setCell_other _ _ _ _ (by simp)).trans (hb.block _ (by omega))), h.bl.of_block ((heap_setCell_other _ _ _ _ (by simp)).trans (hb.block _ (by omega))), h.rt.of_block ((heap_setCell_other _ _ _ _ (by simp)).trans (hb.block _ (by omega))), h.bt.of_block ((heap_setCell_other _ _ _ _ (by simp)).trans (hb.block _ (by omega))), h.rc.of_block ((heap_setCell_other _ _ _ _ (by simp)).trans (hb.block _ (by omega))), h.bc.of_block ((heap_setCell_other _ _ _ _ (by simp)).trans (hb.block _ (by omega))), h.bs.of_block ((heap_setCell_other _ _ _ _ (by simp)).trans (hb.block _ (by omega))), h.bf.of_block ((heap_setCell_other _ _ _ _ (by simp)).trans (hb.block _ (by omega))), (by obtain ⟨v0, h1, h2⟩ := h.bk; exact ⟨v, ((h1.of_block (hb.block _ (by omega))).set 0 _).congr fun i hi => if_pos (by omega), ownsRow_setCell_below ho (by simp) _⟩), by simpa using Nat.le_trans h.hs hb.size⟩

theorem VS.drewN (h : VS w H n F na oa nc oc s) (j : Nat) : VS (w.drewN j) H n F na oa nc oc s := ⟨h.g, h.ro, h.bo, h.rl, h.bl, h.rt, h.bt, h.rc, h.bc, h.bs, h.bf, h.bk, h.hs⟩

/-- How many are not yet seen. -/
def wc (s : TS) (n : Nat) : Nat := ((List.range n).filter (fun x => s.ord x == 0)).length

theorem filter_len_le {p q : Nat → Bool} (l : List Nat) (h : ∀ x, x ∈ l → q x = true → p x = true) : (l.filter q).length ≤ (l.filter p).length := by
  induction l with
  | nil => simp
  | cons a l ih =>
    have ih := ih (fun x hx => h x (List.mem_cons_of_mem _ hx))
    simp only [List.filter_cons]
    cases hq : q a
    · cases hp : p a <;> simp <;> omega
    · rw [h a (List.mem_cons_self ..) hq]; simp; omega

theorem filter_len_lt {p q : Nat → Bool} (l : List Nat) (h : ∀ x, x ∈ l → q x = true → p x = true) {v : Nat} (hv : v ∈ l) (hp : p v = true) (hq : q v = false) : (l.filter q).length < (l.filter p).length := by
  induction l with
  | nil => cases hv
  | cons a l ih =>
    have hle := filter_len_le l (fun x hx => h x (List.mem_cons_of_mem _ hx))
    simp only [List.filter_cons]
    by_cases e : v = a
    · subst e; rw [hp, hq]; simp; omega
    · have ih := ih (fun x hx => h x (List.mem_cons_of_mem _ hx)) (by simpa [e] using hv)
      cases hqa : q a
      · cases hpa : p a <;> simp <;> omega
      · rw [h a (List.mem_cons_self ..) hqa]; simp; omega

theorem wc_le {s s' : TS} {n : Nat} (h : ∀ x, s.ord x ≠ 0 → s'.ord x ≠ 0) : wc s' n ≤ wc s n :=
  filter_len_le _ fun x _ hx => by
    simp only [beq_iff_eq] at hx ⊢
    by_cases e : s.ord x = 0
    · exact e
    · exact absurd hx (h x e)

theorem wc_lt {s s' : TS} {n v : Nat} (h : ∀ x, s.ord x ≠ 0 → s'.ord x ≠ 0) (hv : v < n) (h0 : s.ord v = 0) (h1 : s'.ord v ≠ 0) : wc s' n < wc s n :=
  filter_len_lt _ (fun x _ hx => by
    simp only [beq_iff_eq] at hx ⊢
    by_cases e : s.ord x = 0
    · exact e
    · exact absurd hx (h x e)) (List.mem_range.2 hv) (by simp [h0]) (by simp [h1])

/-- The numbers stay small. -/
def Fit (s : TS) (n : Nat) : Prop := s.step + wc s n ≤ n ∧ s.stk.length ≤ s.step
end Go.Proofs.Qxb6602460a
