import Derived.Test.Qxb6601328aDoorStore
import Derived.Test.Qxb6601328aDoorFields
import Derived.Laws.Tables
import Derived.Laws.CopyOwn
namespace Go.Proofs.Qxb6601328aDoor
open Go.RowKit Go.Own

theorem past5 {w : World} {b i : Nat} {v : Value} (h : w.cell? ⟨b, i, Option.none⟩ = some v) (o1 o2 o3 o4 o5 : Obj) : (((((w.alloc o1).alloc o2).alloc o3).alloc o4).alloc o5).cell? ⟨b, i, Option.none⟩ = some v :=
  cell_below ((((((Below.refl _ _).alloc (Nat.le_refl _) o1).alloc (by simp) o2).alloc (by simp; omega) o3).alloc (by simp; omega) o4).alloc (by simp; omega) o5) h

theorem past4 {w : World} {b i : Nat} {v : Value} (h : w.cell? ⟨b, i, Option.none⟩ = some v) (o1 o2 o3 o4 : Obj) : ((((w.alloc o1).alloc o2).alloc o3).alloc o4).cell? ⟨b, i, Option.none⟩ = some v :=
  cell_below (((((Below.refl _ _).alloc (Nat.le_refl _) o1).alloc (by simp) o2).alloc (by simp; omega) o3).alloc (by simp; omega) o4) h
theorem past3 {w : World} {b i : Nat} {v : Value} (h : w.cell? ⟨b, i, Option.none⟩ = some v) (o1 o2 o3 : Obj) : (((w.alloc o1).alloc o2).alloc o3).cell? ⟨b, i, Option.none⟩ = some v :=
  cell_below ((((Below.refl _ _).alloc (Nat.le_refl _) o1).alloc (by simp) o2).alloc (by simp; omega) o3) h
theorem past2 {w : World} {b i : Nat} {v : Value} (h : w.cell? ⟨b, i, Option.none⟩ = some v) (o1 o2 : Obj) : ((w.alloc o1).alloc o2).cell? ⟨b, i, Option.none⟩ = some v :=
  cell_below (((Below.refl _ _).alloc (Nat.le_refl _) o1).alloc (by simp) o2) h

/-- What the poll leaves, seen from the round's first world. -/
structure After (wr w7 : World) (v0 v1 c0 c1 s p f col : Int) (d : Bool) (pr : Int) : Prop where
  low : Below wr.heap.size wr w7
  node : ∀ i v, (#[.int .i64 c0, .int .i64 c1, .int .i64 s, .int .i64 p, .int .i64 f, .int .i64 0, .int .i64 0, .int .i64 0, .int .i64 0, .int .u32 0, .int .u8 col, .bool d] : Array Value)[i]? = some v → w7.cell? ⟨wr.heap.size + 1 + 1 + 1, i, Option.none⟩ = some v
  pref : w7.cell? ⟨wr.heap.size + 1 + 1 + 1 + 1, 0, Option.none⟩ = some (.int .u8 pr)
  vote0 : w7.cell? ⟨wr.heap.size, 0, Option.none⟩ = some (.int .i64 v0)
  vote1 : w7.cell? ⟨wr.heap.size, 1, Option.none⟩ = some (.int .i64 v1)

theorem after_of {wr w7 : World} {v0 v1 c0 c1 s p f col : Int} {d : Bool} {pr : Int} {X Y A B C : Obj} {j : Nat}
    (h : w7 = (W5 (((wr.alloc (.cells #[.int .i64 v0, .int .i64 v1] 24)).alloc X).alloc Y) c0 c1 s p f col d pr A B C).drewN j) : After wr w7 v0 v1 c0 c1 s p f col d pr := by
  subst h
  have hq : (((wr.alloc (.cells #[.int .i64 v0, .int .i64 v1] 24)).alloc X).alloc Y).heap.size = wr.heap.size + 1 + 1 + 1 := by simp
  have hq2 : ((((wr.alloc (.cells #[.int .i64 v0, .int .i64 v1] 24)).alloc X).alloc Y).alloc (ndO c0 c1 s p f col d)).heap.size = wr.heap.size + 1 + 1 + 1 + 1 := by simp
  have hv : ∀ i v, (#[.int .i64 v0, .int .i64 v1] : Array Value)[i]? = some v → ((W5 (((wr.alloc (.cells #[.int .i64 v0, .int .i64 v1] 24)).alloc X).alloc Y) c0 c1 s p f col d pr A B C).drewN j).cell? ⟨wr.heap.size, i, Option.none⟩ = some v := fun i v hv => past5 (past2 (cell_new wr _ 24 i hv) X Y) _ _ _ _ _
  refine ⟨?_, fun i v hv => ?_, ?_, hv 0 _ rfl, hv 1 _ rfl⟩
  · refine below_drewN' ?_ j
    exact (((((((((Below.refl _ _).alloc (Nat.le_refl _) _).alloc (by simp) _).alloc (by simp; omega) _).alloc (by simp; omega) _).alloc (by simp; omega) _).alloc (by simp; omega) _).alloc (by simp; omega) _).alloc (by simp; omega) _)
  · rw [← hq]
    exact past4 (cell_new _ _ 44 i hv) _ _ _ _
  · rw [← hq2]
    exact past3 (cell_new _ _ 36 0 rfl) _ _ _

theorem StAt.below {w w' : World} {b : Nat} {c0 c1 s p f col : Int} {d : Bool} (h : StAt w b c0 c1 s p f col d) (hb : Below w.heap.size w w') : StAt w' b c0 c1 s p f col d :=
  World.rowIs.of_block h (hb.block _ (World.rowIs.lt h))

theorem put12_cell (w : World) (b k i : Nat) (hk : k ≠ b) (v0 v1 v2 v3 v4 v5 v6 v7 v8 v9 v10 v11 : Value) : (put12 w b v0 v1 v2 v3 v4 v5 v6 v7 v8 v9 v10 v11).cell? ⟨k, i, Option.none⟩ = w.cell? ⟨k, i, Option.none⟩ :=
  World.cell?_of_block (w := w) (put12_block w b k hk _ _ _ _ _ _ _ _ _ _ _ _)

/-- Behind the store of the record. -/
theorem stored {B : Nat} {w8 w10 : World} {b pb vb : Nat} {c0 c1 s p f col : Int} {d : Bool} {x0 x1 x2 : Value} (hb : Below B w8 w10) (hB : B ≤ b) (hst : StAt w10 b c0 c1 s p f col d) (hp : w10.cell? ⟨pb, 0, Option.none⟩ = some x0) (h0 : w10.cell? ⟨vb, 0, Option.none⟩ = some x1)
    (h1 : w10.cell? ⟨vb, 1, Option.none⟩ = some x2) (n1 : pb ≠ b) (n2 : vb ≠ b) (c0' c1' s' p' f' col' : Int) (d' : Bool) (w11 : World)
    (hw : w11 = put12 w10 b (.int .i64 c0') (.int .i64 c1') (.int .i64 s') (.int .i64 p') (.int .i64 f') (.int .i64 0) (.int .i64 0) (.int .i64 0) (.int .i64 0) (.int .u32 0) (.int .u8 col') (.bool d')) :
    Below B w8 w11 ∧ StAt w11 b c0' c1' s' p' f' col' d' ∧ w11.cell? ⟨pb, 0, Option.none⟩ = some x0 ∧ w11.cell? ⟨vb, 0, Option.none⟩ = some x1 ∧ w11.cell? ⟨vb, 1, Option.none⟩ = some x2 := by
  subst hw
  refine ⟨put12_below hb b hB _ _ _ _ _ _ _ _ _ _ _ _, hst.put _ _ _ _ _ _ _, ?_, ?_, ?_⟩
  · rw [put12_cell w10 b pb 0 n1]; exact hp
  · rw [put12_cell w10 b vb 0 n2]; exact h0
  · rw [put12_cell w10 b vb 1 n2]; exact h1

theorem Tryd.info33 : (Tryd.prog.info? 33).map (·.size) = some 12 := by kernel_rfl

theorem storedRow {B : Nat} {w8 w10 : World} {b pb vb : Nat} {arr : Array Value} {x0 x1 x2 : Value} (hb : Below B w8 w10) (hB : B ≤ b) (harr : w10.heap[b]? = some (.cells arr 33 (0, 0))) (hp : w10.cell? ⟨pb, 0, Option.none⟩ = some x0) (h0 : w10.cell? ⟨vb, 0, Option.none⟩ = some x1)
    (h1 : w10.cell? ⟨vb, 1, Option.none⟩ = some x2) (n1 : pb ≠ b) (n2 : vb ≠ b) (c0' c1' s' p' f' col' : Int) (d' : Bool) (w11 : World)
    (hw : w11 = w10.setRow b #[.int .i64 c0', .int .i64 c1', .int .i64 s', .int .i64 p', .int .i64 f', .int .i64 0, .int .i64 0, .int .i64 0, .int .i64 0, .int .u32 0, .int .u8 col', .bool d']) :
    Below B w8 w11 ∧ StAt w11 b c0' c1' s' p' f' col' d' ∧ w11.cell? ⟨pb, 0, Option.none⟩ = some x0 ∧ w11.cell? ⟨vb, 0, Option.none⟩ = some x1 ∧ w11.cell? ⟨vb, 1, Option.none⟩ = some x2 := by
  subst hw
  refine ⟨below_setRow hb hB _, ⟨_, setRow_heap _ _ arr _ 33 (0, 0) harr, rfl, fun i hi => ?_⟩, ?_, ?_, ?_⟩
  · have : i = 0 ∨ i = 1 ∨ i = 2 ∨ i = 3 ∨ i = 4 ∨ i = 5 ∨ i = 6 ∨ i = 7 ∨ i = 8 ∨ i = 9 ∨ i = 10 ∨ i = 11 := by omega
    rcases this with rfl | rfl | rfl | rfl | rfl | rfl | rfl | rfl | rfl | rfl | rfl | rfl <;> rfl
  · rw [cell_setRow_other _ _ _ _ n1]; exact hp
  · rw [cell_setRow_other _ _ _ _ n2]; exact h0
  · rw [cell_setRow_other _ _ _ _ n2]; exact h1
end Go.Proofs.Qxb6601328aDoor
