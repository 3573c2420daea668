import Derived.Test.Qxb6001688aFmtSame
namespace Go.Proofs.Qxb6001688aFmt
open Go.RowKit Go.Own Go.Extern.Stop Go.Stop Go.Extern

/-- Do the field at i and the expectation at i agree? -/
def mt (X Y : Nat → Int) (B : Nat → Bool) (U : Nat → Int) (V : Nat → Bool) (i : Nat) : Bool := decide (X i = 0 ∧ Y i = U i ∧ B i = V i)

/-- K is the length of the longest prefix that agrees. -/
structure Longest (n m : Nat) (M : Nat → Bool) (K : Nat) : Prop where
  le1 : K ≤ n
  le2 : K ≤ m
  all : ∀ i, i < K → M i = true
  stop : K = n ∨ K = m ∨ M K = false

/-- A zero field that was laid ahead of a call lies there behind it. -/
theorem zero_below {wr w8 : World} (h : Below (wr.alloc (.cells #[.int .i64 0, .int .i64 0, .bool false, .slice Option.none 0 0] 57)).drew.heap.size (wr.alloc (.cells #[.int .i64 0, .int .i64 0, .bool false, .slice Option.none 0 0] 57)).drew w8) :
    w8.cell? ⟨wr.heap.size, 0, Option.none⟩ = some (.int .i64 0) ∧ w8.cell? ⟨wr.heap.size, 1, Option.none⟩ = some (.int .i64 0) ∧ w8.cell? ⟨wr.heap.size, 2, Option.none⟩ = some (.bool false) ∧ w8.cell? ⟨wr.heap.size, 3, Option.none⟩ = some (.slice Option.none 0 0) ∧
      (∀ o, w8.frozen? ⟨wr.heap.size, o, Option.none⟩ = false) ∧ wr.heap.size < w8.heap.size := by
  have hz : wr.heap.size < (wr.alloc (.cells #[.int .i64 0, .int .i64 0, .bool false, .slice Option.none 0 0] 57)).drew.heap.size := by simp
  refine ⟨cell_below h (cell_new wr _ _ 0 rfl), cell_below h (cell_new wr _ _ 1 rfl), cell_below h (cell_new wr _ _ 2 rfl), cell_below h (cell_new wr _ _ 3 rfl), fun o => ?_, Nat.lt_of_lt_of_le hz h.size⟩
  rw [h.frozen (p := ⟨wr.heap.size, o, Option.none⟩) hz]
  simp

/-- What a statement 'rest, v, err := ZZNext(..)' leaves. -/
def Got (wr : World) (m : Nat) (G : Nat → Fld) (f : Fld) (ra : Option Addr) (vb : Nat) (wc : World) : Prop :=
  Below wr.heap.size wr wc ∧ FldsAt wc ra m G ∧ wc.cell? ⟨vb, 0, Option.none⟩ = some (.int .i64 f.cls) ∧ wc.cell? ⟨vb, 1, Option.none⟩ = some (.int .i64 f.tag) ∧ wc.cell? ⟨vb, 2, Option.none⟩ = some (.bool f.comp) ∧ wc.cell? ⟨vb, 3, Option.none⟩ = some (.slice f.ba f.bn f.bc)

theorem gotA {wr w8 : World} {m : Nat} {G : Nat → Fld} {ra : Option Addr} (hb : Below wr.drew.heap.size wr.drew w8) (hf : FldsAt w8 ra m G) (f : Fld) :
    Got wr m G f ra w8.heap.size (w8.alloc (.cells #[.int .i64 f.cls, .int .i64 f.tag, .bool f.comp, .slice f.ba f.bn f.bc] 57)) := by
  have hb' : Below wr.heap.size wr w8 := ⟨hb.os, hb.tape, hb.output, hb.size, hb.block⟩
  exact ⟨hb'.alloc hb'.size _, hf.below ((Below.refl _ _).alloc (Nat.le_refl _) _), cell_new w8 _ _ 0 rfl, cell_new w8 _ _ 1 rfl, cell_new w8 _ _ 2 rfl, cell_new w8 _ _ 3 rfl⟩

theorem cells4 {w : World} {B : Nat} {u0 u1 u2 u3 : Value} (k0 : w.cell? ⟨B, 0, Option.none⟩ = some u0) (k1 : w.cell? ⟨B, 1, Option.none⟩ = some u1) (k2 : w.cell? ⟨B, 2, Option.none⟩ = some u2) (k3 : w.cell? ⟨B, 3, Option.none⟩ = some u3) (v0 v1 v2 v3 : Value) :
    ((((w.setCell ⟨B, 0, Option.none⟩ v0).setCell ⟨B, 1, Option.none⟩ v1).setCell ⟨B, 2, Option.none⟩ v2).setCell ⟨B, 3, Option.none⟩ v3).cell? ⟨B, 0, Option.none⟩ = some v0 ∧
    ((((w.setCell ⟨B, 0, Option.none⟩ v0).setCell ⟨B, 1, Option.none⟩ v1).setCell ⟨B, 2, Option.none⟩ v2).setCell ⟨B, 3, Option.none⟩ v3).cell? ⟨B, 1, Option.none⟩ = some v1 ∧
    ((((w.setCell ⟨B, 0, Option.none⟩ v0).setCell ⟨B, 1, Option.none⟩ v1).setCell ⟨B, 2, Option.none⟩ v2).setCell ⟨B, 3, Option.none⟩ v3).cell? ⟨B, 2, Option.none⟩ = some v2 ∧
    ((((w.setCell ⟨B, 0, Option.none⟩ v0).setCell ⟨B, 1, Option.none⟩ v1).setCell ⟨B, 2, Option.none⟩ v2).setCell ⟨B, 3, Option.none⟩ v3).cell? ⟨B, 3, Option.none⟩ = some v3 := by
  simp [go_sem, k0, k1, k2, k3]

theorem gotB {wr w8 : World} {m : Nat} {G : Nat → Fld} {ra : Option Addr} {o : Obj} {u0 u1 u2 u3 : Value} (hb : Below (wr.alloc o).drew.heap.size (wr.alloc o).drew w8) (hf : FldsAt w8 ra m G) (hlo : ∀ b off, ra = some ⟨b, off, Option.none⟩ → (wr.alloc o).drew.heap.size ≤ b)
    (k0 : w8.cell? ⟨wr.heap.size, 0, Option.none⟩ = some u0) (k1 : w8.cell? ⟨wr.heap.size, 1, Option.none⟩ = some u1) (k2 : w8.cell? ⟨wr.heap.size, 2, Option.none⟩ = some u2) (k3 : w8.cell? ⟨wr.heap.size, 3, Option.none⟩ = some u3) (f : Fld) :
    Got wr m G f ra wr.heap.size ((((w8.setCell ⟨wr.heap.size, 0, Option.none⟩ (.int .i64 f.cls)).setCell ⟨wr.heap.size, 1, Option.none⟩ (.int .i64 f.tag)).setCell ⟨wr.heap.size, 2, Option.none⟩ (.bool f.comp)).setCell ⟨wr.heap.size, 3, Option.none⟩ (.slice f.ba f.bn f.bc)) := by
  have hz : wr.heap.size < (wr.alloc o).drew.heap.size := by simp
  have hb' : Below wr.heap.size wr w8 := (((Below.refl wr.heap.size wr).alloc (Nat.le_refl _) o).drew).trans (hb.mono (Nat.le_of_lt hz))
  refine ⟨set4_below hb' _ _ _ _, set4_flds hf (fun b off e => ?_) _ _ _ _, cells4 k0 k1 k2 k3 _ _ _ _⟩
  have := hlo b off e
  omega

theorem FldsAt.congr {w : World} {a : Option Addr} {n : Nat} {F G : Nat → Fld} (h : FldsAt w a n F) (e : ∀ i, i < n → F i = G i) : FldsAt w a n G := by
  intro hn
  obtain ⟨b, off, ha, hc⟩ := h hn
  exact ⟨b, off, ha, fun i hi => by rw [← e i hi]; exact hc i hi⟩

theorem FldsAt.tail {w : World} {b n K : Nat} {F : Nat → Fld} (h : FldsAt w (some ⟨b, 0, Option.none⟩) n F) : FldsAt w (some ⟨b, K * 4, Option.none⟩) (n - K) (fun i => F (K + i)) := by
  intro hn
  obtain ⟨b', off, ha, hc⟩ := h (by omega)
  cases ha
  refine ⟨b, K * 4, rfl, fun i hi => ?_⟩
  have := hc (K + i) (by omega)
  simp only [Nat.zero_add] at this
  rw [show (K + i) * 4 = K * 4 + i * 4 from by omega] at this
  exact this

theorem cell_below_d {w w' : World} (hg : Below w.drew.heap.size w.drew w') {b o : Nat} {v : Value} (h : w.cell? ⟨b, o, Option.none⟩ = some v) : w'.cell? ⟨b, o, Option.none⟩ = some v := cell_below (w := w.drew) hg h

theorem cell_below_a {w w' : World} {x : Obj} (hg : Below (w.alloc x).drew.heap.size (w.alloc x).drew w') {b o : Nat} {v : Value} (h : w.cell? ⟨b, o, Option.none⟩ = some v) : w'.cell? ⟨b, o, Option.none⟩ = some v :=
  cell_below_d (w := w.alloc x) hg (cell_below ((Below.refl _ _).alloc (Nat.le_refl _) x) h)

theorem cell_d {w : World} {b o : Nat} {v : Value} (h : w.cell? ⟨b, o, Option.none⟩ = some v) : w.drew.cell? ⟨b, o, Option.none⟩ = some v := h
theorem cell_al {w : World} {x : Obj} {b o : Nat} {v : Value} (h : w.cell? ⟨b, o, Option.none⟩ = some v) : (w.alloc x).cell? ⟨b, o, Option.none⟩ = some v := cell_below ((Below.refl _ _).alloc (Nat.le_refl _) x) h
theorem cell_ad {w : World} {x : Obj} {b o : Nat} {v : Value} (h : w.cell? ⟨b, o, Option.none⟩ = some v) : (w.alloc x).drew.cell? ⟨b, o, Option.none⟩ = some v := cell_d (cell_al h)
theorem cell_s1 {w : World} {B p : Nat} {u : Value} {b o : Nat} {v : Value} (h : w.cell? ⟨b, o, Option.none⟩ = some v) (hne : b ≠ B) : (w.setCell ⟨B, p, Option.none⟩ u).cell? ⟨b, o, Option.none⟩ = some v := by
  rw [← h]
  exact World.cell?_of_block (w := w) (Below.heap_setCell _ _ _ _ hne)
theorem cell_set4 {w : World} {B : Nat} {u0 u1 u2 u3 : Value} {b o : Nat} {v : Value} (h : w.cell? ⟨b, o, Option.none⟩ = some v) (hne : b < B) :
    ((((w.setCell ⟨B, 0, Option.none⟩ u0).setCell ⟨B, 1, Option.none⟩ u1).setCell ⟨B, 2, Option.none⟩ u2).setCell ⟨B, 3, Option.none⟩ u3).cell? ⟨b, o, Option.none⟩ = some v :=
  cell_s1 (cell_s1 (cell_s1 (cell_s1 h (Nat.ne_of_lt hne)) (Nat.ne_of_lt hne)) (Nat.ne_of_lt hne)) (Nat.ne_of_lt hne)

theorem fits_of {f : Fld} {X Y : Nat → Int} {B : Nat → Bool} {U : Nat → Int} {V : Nat → Bool} {q : Nat} (h0 : f.cls = X q) (h1 : f.tag = Y q) (h2 : f.comp = B q) : fits f (U q) (V q) = mt X Y B U V q := by
  unfold fits mt
  rw [h0, h1, h2]
end Go.Proofs.Qxb6001688aFmt
