import Derived.Test.Qxb6002590aFrames
import Derived.Laws.Tables
import Derived.Laws.CopyOwn
namespace Go.Proofs.Qxb6002590a
open Go.RowKit Go.Own

/-- From block m on, all that was there is as it was. -/
def Kept (m : Nat) (w w' : World) : Prop := ∀ k, m ≤ k → k < w.heap.size → w'.heap[k]? = w.heap[k]?

theorem Kept.of_below {m : Nat} {w w' : World} (h : Below w.heap.size w w') : Kept m w w' := fun k _ hk => h.block k hk
theorem Kept.setCell {m : Nat} {w w' : World} (h : Kept m w w') {p : Addr} (hp : p.block < m) (u : Value) : Kept m w (w'.setCell p u) := fun k h1 h2 => (heap_setCell_other w' p k u (by omega)).trans (h k h1 h2)
theorem Kept.setRow {m : Nat} {w w' : World} (h : Kept m w w') {g : Nat} (hg : g < m) (cs : Array Value) : Kept m w (w'.setRow g cs) := fun k h1 h2 => (setRow_other w' g k cs (by omega)).trans (h k h1 h2)

/-- A slice of bytes that lies from block m on. -/
def FarB (m : Nat) (w : World) (a : Option Addr) (c : Nat) (xs : List Int) : Prop := BytesAt w a c xs ∧ ∀ b off, a = some ⟨b, off, Option.none⟩ → m ≤ b

theorem FarB.kept {m : Nat} {w w' : World} {a : Option Addr} {c : Nat} {xs : List Int} (h : FarB m w a c xs) (hk : Kept m w w') : FarB m w' a c xs := by
  refine ⟨⟨h.1.cap, h.1.nil, fun hn => ?_⟩, h.2⟩
  obtain ⟨b, off, rfl, hc⟩ := h.1.cells hn
  exact ⟨b, off, rfl, fun i hi => (World.cell?_of_block (w := w) (hk b (h.2 b off rfl) (cell_lt (hc i hi)))).trans (hc i hi)⟩

/-- An end of a range, as the program holds it. -/
def BoundAt (m : Nat) (w : World) (p : Option Addr) (ex : Bool) (b : Option (List Int)) : Prop :=
  (b = Option.none ∧ p = Option.none) ∨ ∃ xs g a c, b = some xs ∧ p = some ⟨g, 0, Option.none⟩ ∧ m ≤ g ∧ w.cell? ⟨g, 0, Option.none⟩ = some (.slice a xs.length c) ∧ w.cell? ⟨g, 1, Option.none⟩ = some (.bool ex) ∧ FarB m w a c xs

theorem BoundAt.kept {m : Nat} {w w' : World} {p : Option Addr} {ex : Bool} {b : Option (List Int)} (h : BoundAt m w p ex b) (hk : Kept m w w') : BoundAt m w' p ex b := by
  rcases h with h | ⟨xs, g, a, c, h1, h2, h3, h4, h5, h6⟩
  · exact .inl h
  · exact .inr ⟨xs, g, a, c, h1, h2, h3, (World.cell?_of_block (w := w) (hk g h3 (cell_lt h4))).trans h4, (World.cell?_of_block (w := w) (hk g h3 (cell_lt h4))).trans h5, h6.kept hk⟩

theorem BoundAt.none (m : Nat) (w : World) (ex : Bool) : BoundAt m w Option.none ex Option.none := .inl ⟨rfl, rfl⟩

/-- A range's cells. -/
def rngF (L U : Option Addr) : Nat → Value
  | 0 => .pointer L
  | 1 => .pointer U
  | 2 => .bool false
  | _ => .int .i64 0

def RngAt (w : World) (b : Nat) (L U : Option Addr) : Prop := w.rowIs b 27 4 (rngF L U)

theorem RngAt.below {w w' : World} {b : Nat} {L U : Option Addr} (h : RngAt w b L U) (hb : Below w.heap.size w w') : RngAt w' b L U := World.rowIs.of_block h (hb.block _ (World.rowIs.lt h))

theorem RngAt.cells {w : World} {b : Nat} {L U : Option Addr} (h : RngAt w b L U) :
    w.cell? ⟨b, 0, Option.none⟩ = some (.pointer L) ∧ w.cell? ⟨b, 1, Option.none⟩ = some (.pointer U) ∧ w.cell? ⟨b, 2, Option.none⟩ = some (.bool false) ∧ w.cell? ⟨b, 3, Option.none⟩ = some (.int .i64 0) :=
  ⟨World.rowIs.cell h (i := 0) (by decide), World.rowIs.cell h (i := 1) (by decide), World.rowIs.cell h (i := 2) (by decide), World.rowIs.cell h (i := 3) (by decide)⟩

theorem RngAt.frozen {w : World} {b : Nat} {L U : Option Addr} (h : RngAt w b L U) (i : Nat) : w.frozen? ⟨b, i, Option.none⟩ = false := World.rowIs.frozen h i

theorem RngAt.low {w : World} {b : Nat} {L U : Option Addr} (h : RngAt w b L U) (L' : Option Addr) : RngAt (w.setCell ⟨b, 0, Option.none⟩ (.pointer L')) b L' U :=
  World.rowIs.congr (World.rowIs.set h 0 _) fun i hi => by
    have : i = 0 ∨ i = 1 ∨ i = 2 ∨ i = 3 := by omega
    rcases this with rfl | rfl | rfl | rfl <;> rfl

theorem RngAt.up {w : World} {b : Nat} {L U : Option Addr} (h : RngAt w b L U) (U' : Option Addr) : RngAt (w.setCell ⟨b, 1, Option.none⟩ (.pointer U')) b L U' :=
  World.rowIs.congr (World.rowIs.set h 1 _) fun i hi => by
    have : i = 0 ∨ i = 1 ∨ i = 2 ∨ i = 3 := by omega
    rcases this with rfl | rfl | rfl | rfl <;> rfl

theorem RngAt.other {w : World} {b : Nat} {L U : Option Addr} (h : RngAt w b L U) {p : Addr} (hp : b ≠ p.block) (u : Value) : RngAt (w.setCell p u) b L U := World.rowIs.of_block h (heap_setCell_other w p b u hp)

theorem RngAt.made (w : World) : RngAt (w.alloc (.cells #[.pointer Option.none, .pointer Option.none, .bool false, .int .i64 0] 27)) w.heap.size Option.none Option.none :=
  World.rowIs_alloc w _ 27 _ fun i hi => by
    have : i = 0 ∨ i = 1 ∨ i = 2 ∨ i = 3 := by simp at hi; omega
    rcases this with rfl | rfl | rfl | rfl <;> rfl

/-! ### The plain function -/
def lowOf (pnil : Bool) (pfx : List Int) (s : Sp) : Option (Option (List Int)) :=
  if (!s.la.isNone && s.le) = true then (aft (pfx ++ s.lo)).map some else if (!s.la.isNone || !pnil) = true then some (some (pfx ++ s.lo)) else some Option.none

def upOf (pnil : Bool) (pfx : List Int) (s : Sp) : Option (List Int) :=
  if (!s.ha.isNone && s.he) = true then some (pfx ++ s.hi) else if (!s.ha.isNone || !pnil) = true then aft (pfx ++ s.hi) else Option.none

/-- What a span's cells hold. -/
def SpAt (w : World) (b off : Nat) (s : Sp) : Prop :=
  w.cell? ⟨b, off, Option.none⟩ = some (.slice s.la s.lo.length s.lc) ∧ w.cell? ⟨b, off + 1, Option.none⟩ = some (.slice s.ha s.hi.length s.hc) ∧ w.cell? ⟨b, off + 2, Option.none⟩ = some (.bool s.le) ∧ w.cell? ⟨b, off + 3, Option.none⟩ = some (.bool s.he) ∧ w.cell? ⟨b, off + 4, Option.none⟩ = some (.bool s.na)

theorem SpAt.below {w w' : World} {b off : Nat} {s : Sp} (h : SpAt w b off s) (hb : Below w.heap.size w w') : SpAt w' b off s :=
  ⟨cell_below hb h.1, cell_below hb h.2.1, cell_below hb h.2.2.1, cell_below hb h.2.2.2.1, cell_below hb h.2.2.2.2⟩

theorem SpAt.other {w : World} {b off : Nat} {s : Sp} (h : SpAt w b off s) {p : Addr} (hp : b ≠ p.block) (u : Value) : SpAt (w.setCell p u) b off s := by
  have e : ∀ i, (w.setCell p u).cell? ⟨b, i, Option.none⟩ = w.cell? ⟨b, i, Option.none⟩ := fun i => World.cell?_of_block (w := w) (heap_setCell_other w p b u hp)
  unfold SpAt
  simp only [e]
  exact h

theorem Sp.ok.below {w w' : World} {s : Sp} (h : s.ok w) (hb : Below w.heap.size w w') : s.ok w' := ⟨h.1.below hb, h.2.1.below hb, h.2.2.1, h.2.2.2⟩
end Go.Proofs.Qxb6002590a
