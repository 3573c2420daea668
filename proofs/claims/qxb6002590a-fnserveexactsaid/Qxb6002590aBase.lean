/- Own laws over any program: a slice of one-cell elements told by a function of the index (SliceAt), bytes told by a list of integers. -/
import Derived.WalkKit
import Derived.WalkSpells
import Derived.WalkLawsBesides
import Derived.Deep.OwnRows
import Derived.Deep.Draws
namespace Go.Own
open Go.RowKit

theorem hide {p : Prop} (h : p) : Hid p := h
theorem unhide {p : Prop} (h : Hid p) : p := h

theorem below_drewN' {B : Nat} {w w' : World} (h : Below B w w') (j : Nat) : Below B w (w'.drewN j) := ⟨h.os, h.tape, h.output, h.size, h.block⟩

/-! ### Slices of one-cell elements, told by a function of the index -/
structure SliceAt (w : World) (a : Option Addr) (n c : Nat) (f : Nat → Value) : Prop where
  cap : n ≤ c
  nil : a = Option.none → c = 0
  cells : 0 < n → ∃ b off, a = some ⟨b, off, Option.none⟩ ∧ ∀ i, i < n → w.cell? ⟨b, off + i, Option.none⟩ = some (f i)

theorem cell_block {w : World} {b o : Nat} {v : Value} (h : w.cell? ⟨b, o, Option.none⟩ = some v) : ∃ cs t fr, w.heap[b]? = some (.cells cs t fr) := by
  unfold World.cell? at h
  split at h <;> first | cases h | skip
  all_goals first | exact ⟨_, _, _, by assumption⟩ | simp_all

theorem cell_new (w : World) (cs : Array Value) (t i : Nat) {v : Value} (h : cs[i]? = some v) : (w.alloc (.cells cs t)).cell? ⟨w.heap.size, i, Option.none⟩ = some v := by
  have e := (MapKept.heap_alloc w (.cells cs t)).1
  simp only [World.cell?, e]
  exact h

theorem cell_lt {w : World} {b o : Nat} {v : Value} (h : w.cell? ⟨b, o, Option.none⟩ = some v) : b < w.heap.size := by
  obtain ⟨cs, t, fr, hb⟩ := cell_block h
  exact (Array.getElem?_eq_some_iff.1 hb).1

theorem cell_below {w w' : World} (hg : Below w.heap.size w w') {b o : Nat} {v : Value} (h : w.cell? ⟨b, o, Option.none⟩ = some v) : w'.cell? ⟨b, o, Option.none⟩ = some v := by
  rw [hg.cell (p := ⟨b, o, Option.none⟩) (cell_lt h), h]

variable {w : World} {a : Option Addr} {n c : Nat} {f g : Nat → Value} {w' : World}

theorem SliceAt.below (h : SliceAt w a n c f) (hg : Below w.heap.size w w') : SliceAt w' a n c f := by
  refine ⟨h.cap, h.nil, fun hn => ?_⟩
  obtain ⟨b, off, ha, hc⟩ := h.cells hn
  exact ⟨b, off, ha, fun i hi => cell_below hg (hc i hi)⟩

theorem SliceAt.of_row {b : Nat} {t : TypeId} (h : w.rowIs b t n f) : SliceAt w (some ⟨b, 0, Option.none⟩) n n f :=
  ⟨Nat.le_refl _, fun e => (by cases e), fun _ => ⟨b, 0, rfl, fun i hi => by rw [Nat.zero_add, h.cell hi]⟩⟩

theorem SliceAt.of_nil (w : World) (f : Nat → Value) : SliceAt w Option.none 0 0 f := ⟨Nat.le_refl _, fun _ => rfl, fun h => absurd h (Nat.lt_irrefl _)⟩

theorem SliceAt.congr (h : SliceAt w a n c f) (e : ∀ i, i < n → f i = g i) : SliceAt w a n c g := by
  refine ⟨h.cap, h.nil, fun hn => ?_⟩
  obtain ⟨b, off, ha, hc⟩ := h.cells hn
  exact ⟨b, off, ha, fun i hi => by rw [hc i hi, e i hi]⟩

theorem SliceAt.setOther (h : SliceAt w a n c f) {p : Addr} (hp : ∀ b off, a = some ⟨b, off, Option.none⟩ → b ≠ p.block) (u : Value) : SliceAt (w.setCell p u) a n c f := by
  refine ⟨h.cap, h.nil, fun hn => ?_⟩
  obtain ⟨b, off, ha, hc⟩ := h.cells hn
  refine ⟨b, off, ha, fun i hi => ?_⟩
  rw [← hc i hi]
  exact World.cell?_of_block (w := w) (Below.heap_setCell _ _ _ _ (hp b off ha))

theorem SliceAt.alike (h : SliceAt w a n c f) (e : w'.Alike w) : SliceAt w' a n c f := by
  refine ⟨h.cap, h.nil, fun hn => ?_⟩
  obtain ⟨b, off, ha, hc⟩ := h.cells hn
  exact ⟨b, off, ha, fun i hi => (e.cell _).trans (hc i hi)⟩

theorem SliceAt.drewN (h : SliceAt w a n c f) (j : Nat) : SliceAt (w.drewN j) a n c f := ⟨h.cap, h.nil, h.cells⟩

/-- A shorter cut of the same slice from its head. -/
theorem SliceAt.cut (h : SliceAt w a n c f) {m : Nat} (hm : m ≤ n) : SliceAt w a m c f := by
  refine ⟨Nat.le_trans hm h.cap, h.nil, fun hn => ?_⟩
  obtain ⟨b, off, ha, hc⟩ := h.cells (by omega)
  exact ⟨b, off, ha, fun i hi => hc i (by omega)⟩

theorem fill_step (i k : Nat) (f : Nat → Value) (z : Value) : (if i = k then f k else if i < k then f i else z) = if i < k + 1 then f i else z := by
  by_cases h : i = k
  · subst h; simp
  · rw [if_neg h]
    by_cases h2 : i < k
    · rw [if_pos h2, if_pos (by omega)]
    · rw [if_neg h2, if_neg (by omega)]

end Go.Own
