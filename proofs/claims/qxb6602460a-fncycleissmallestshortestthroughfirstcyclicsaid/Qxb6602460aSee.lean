/- Arguments that came in, seen as SliceAt. Over any program. -/
import Derived.Test.Qxb6602460aBase
import Derived.ProofKit
import Derived.OpenShut
import Derived.Deep.Slices
namespace Go.Own
open Go.RowKit Go.Deep Go.WideShapes

section
variable {H : Type} {enc : TypeId × Value → H} {P : Program} {w : World} {base : Nat} {spare : Nat → Bool} {held : Bool}

theorem see_slice {t e : TypeId} {fuel : Nat} {cs : List Value} {x : DataW H × List MemPlace} (ht : P.underlying t = some (.slice e)) (hc : P.cellsOf e = 1) (h : DataW.trod enc P w base spare held fuel t cs = some x) :
    ∃ a n c V, cs = [.slice a n c] ∧ SliceAt w a n c V ∧ c ≤ maxLen ∧ ∀ i, i < n → ∃ m y, DataW.trod enc P w base spare held m e [V i] = some y := by
  rcases open_slice1 ht hc h with ⟨rfl, rfl⟩ | ⟨a, len, cap, m, n, V, D, Pl, rfl, hb, hl, hm, hmm, rfl, hx⟩
  · exact ⟨Option.none, 0, 0, fun _ => .int .i64 0, rfl, SliceAt.of_nil _ _, Nat.zero_le _, fun i hi => absurd hi (Nat.not_lt_zero _)⟩
  · have hlm : len ≤ m := by rw [hmm]; split <;> omega
    refine ⟨some a, len, cap, V, rfl, ⟨hl, fun e => (by cases e), fun hn => ?_⟩, hm, fun i hi => ⟨n, _, (hx i (by omega)).2⟩⟩
    obtain ⟨b, off, spot⟩ := a
    have h0 := (hx 0 (by omega)).1
    have hspot : spot = Option.none := by simpa [Addr.add] using World.cell?_spot h0
    subst hspot
    exact ⟨b, off, rfl, fun i hi => by rw [← add_plain]; exact (hx i (by omega)).1⟩

theorem see_ints {t e : TypeId} {k : IntKind} {fuel : Nat} {cs : List Value} {x : DataW H × List MemPlace} (ht : P.underlying t = some (.slice e)) (he : P.underlying e = some (.int k)) (hc : P.cellsOf e = 1) (h : DataW.trod enc P w base spare held fuel t cs = some x) :
    ∃ a n c, ∃ X : Nat → Int, cs = [.slice a n c] ∧ SliceAt w a n c (fun i => .int k (X i)) ∧ c ≤ maxLen ∧ ∀ i, i < n → (Lit.int k (X i)).wf = true := by
  obtain ⟨a, n, c, V, rfl, hs, hm, hV⟩ := see_slice ht hc h
  obtain ⟨X, hX⟩ := choose_lt (α := Int) (n := n) (p := fun i x => V i = .int k x ∧ (Lit.int k x).wf = true) (fun i hi => by
    obtain ⟨m, y, hy⟩ := hV i hi
    obtain ⟨x, h1, h2, h3⟩ := DataW.trod_int he hy
    exact ⟨x, by simpa using h1, h3⟩)
  exact ⟨a, n, c, X, rfl, hs.congr (fun i hi => (hX i hi).1), hm, fun i hi => (hX i hi).2⟩

theorem see_bools {t e : TypeId} {fuel : Nat} {cs : List Value} {x : DataW H × List MemPlace} (ht : P.underlying t = some (.slice e)) (he : P.underlying e = some .bool) (hc : P.cellsOf e = 1) (h : DataW.trod enc P w base spare held fuel t cs = some x) :
    ∃ a n c, ∃ B : Nat → Bool, cs = [.slice a n c] ∧ SliceAt w a n c (fun i => .bool (B i)) ∧ c ≤ maxLen := by
  obtain ⟨a, n, c, V, rfl, hs, hm, hV⟩ := see_slice ht hc h
  obtain ⟨X, hX⟩ := choose_lt (α := Bool) (n := n) (p := fun i x => V i = .bool x) (fun i hi => by
    obtain ⟨m, y, hy⟩ := hV i hi
    obtain ⟨x, h1, h2⟩ := DataW.trod_bool he hy
    exact ⟨x, by simpa using h1⟩)
  exact ⟨a, n, c, X, rfl, hs.congr hX, hm⟩

theorem see_strings {t e : TypeId} {fuel : Nat} {cs : List Value} {x : DataW H × List MemPlace} (ht : P.underlying t = some (.slice e)) (he : P.underlying e = some .string) (hc : P.cellsOf e = 1) (h : DataW.trod enc P w base spare held fuel t cs = some x) :
    ∃ a n c, ∃ S : Nat → ByteArray, cs = [.slice a n c] ∧ SliceAt w a n c (fun i => .string (S i)) ∧ c ≤ maxLen ∧ ∀ i, i < n → (S i).size ≤ maxLen := by
  obtain ⟨a, n, c, V, rfl, hs, hm, hV⟩ := see_slice ht hc h
  obtain ⟨X, hX⟩ := choose_lt (α := ByteArray) (n := n) (p := fun i x => V i = .string x ∧ x.size ≤ maxLen) (fun i hi => by
    obtain ⟨m, y, hy⟩ := hV i hi
    obtain ⟨x, h1, h2, h3⟩ := DataW.trod_string he hy
    exact ⟨x, by simpa using h1, h3⟩)
  exact ⟨a, n, c, X, rfl, hs.congr (fun i hi => (hX i hi).1), hm, fun i hi => (hX i hi).2⟩

/-- A slice of slices of integers. -/
theorem see_rows {t e q : TypeId} {k : IntKind} {fuel : Nat} {cs : List Value} {x : DataW H × List MemPlace} (ht : P.underlying t = some (.slice e)) (he : P.underlying e = some (.slice q)) (hq : P.underlying q = some (.int k)) (ce : P.cellsOf e = 1) (cq : P.cellsOf q = 1)
    (h : DataW.trod enc P w base spare held fuel t cs = some x) :
    ∃ a n c, ∃ (A : Nat → Option Addr) (N C : Nat → Nat) (X : Nat → Nat → Int), cs = [.slice a n c] ∧ SliceAt w a n c (fun i => .slice (A i) (N i) (C i)) ∧ c ≤ maxLen ∧
      ∀ i, i < n → SliceAt w (A i) (N i) (C i) (fun j => .int k (X i j)) ∧ C i ≤ maxLen ∧ ∀ j, j < N i → (Lit.int k (X i j)).wf = true := by
  obtain ⟨a, n, c, V, rfl, hs, hm, hV⟩ := see_slice ht ce h
  obtain ⟨X, hX⟩ := choose_lt (α := Option Addr × Nat × Nat × (Nat → Int)) (n := n) (p := fun i y => V i = .slice y.1 y.2.1 y.2.2.1 ∧ SliceAt w y.1 y.2.1 y.2.2.1 (fun j => .int k (y.2.2.2 j)) ∧ y.2.2.1 ≤ maxLen ∧ ∀ j, j < y.2.1 → (Lit.int k (y.2.2.2 j)).wf = true) (fun i hi => by
    obtain ⟨m, y, hy⟩ := hV i hi
    obtain ⟨a', n', c', X, h1, h2, h3, h4⟩ := see_ints he hq cq hy
    exact ⟨(a', n', c', X), by simpa using h1, h2, h3, h4⟩)
  exact ⟨a, n, c, fun i => (X i).1, fun i => (X i).2.1, fun i => (X i).2.2.1, fun i => (X i).2.2.2, rfl, hs.congr (fun i hi => (hX i hi).1), hm, fun i hi => (hX i hi).2⟩
end
end Go.Own
