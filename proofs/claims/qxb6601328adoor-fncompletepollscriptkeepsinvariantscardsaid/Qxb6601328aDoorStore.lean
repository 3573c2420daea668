import Derived.Test.Qxb6601328aDoorSmall
import Derived.Laws.Cover3
namespace Go.Proofs.Qxb6601328aDoor
open Go.RowKit Go.Own

theorem Tryd.nil22 (w : World) (a : Option Addr) (n c : Nat) : (binOp .neq 22 (.slice a n c) (.slice Option.none 0 0)).run Tryd.prog w = .ok (.bool (!a.isNone)) w := Go.run_neq_slice_nil w 22 24 a n c Tryd.underlying22
theorem Tryd.info24 : (Tryd.prog.info? 24).map (fun i => (i.zero, i.size, i.bytes)) = some (some (.agg #[.int .i64 0, .int .i64 0]), 2, 16) := by kernel_rfl

theorem run_make24 (n : Nat) (h : n ≤ 1048576) (w : World) : (Instr.makeSlice 22 (.int .i64 (n : Int)) (.int .i64 (n : Int))).run Tryd.prog w = .ok (.slice (some ⟨w.heap.size, 0, Option.none⟩) n n) (w.alloc (.cells (madeCells #[.int .i64 0, .int .i64 0] (n * 2)) 24)) := by
  obtain ⟨i, hi, hzz⟩ := Option.map_eq_some_iff.1 Tryd.info24
  simp only [Prod.mk.injEq] at hzz
  obtain ⟨hz, hs, hb⟩ := hzz
  have hr := run_make (P := Tryd.prog) w 22 24 i _ Tryd.underlying22 hi hz .i64 .i64 n n (by omega) (Int.le_refl _) (by rw [hb]; omega) (by omega)
  simp only [Int.toNat_natCast, hs] at hr
  exact hr

theorem rowIs_made' (w : World) (z : Array Value) (n : Nat) (t : TypeId) : (w.alloc (.cells (madeCells z n) t)).rowIs w.heap.size t n (fun i => z[i % z.size]!) :=
  ⟨_, Deep.blk_alloc_new _ _, size_madeCells _ _, fun i hi => by simp [madeCells, hi]⟩

/-- Pairs of integers, two cells a pair. -/
def PairsAt (w : World) (a : Option Addr) (n : Nat) : Prop :=
  0 < n → ∃ b off, a = some ⟨b, off, Option.none⟩ ∧ ∀ i, i < n → ∃ x y : Int, w.cell? ⟨b, off + i * 2, Option.none⟩ = some (.int .i64 x) ∧ w.cell? ⟨b, off + i * 2 + 1, Option.none⟩ = some (.int .i64 y)

theorem PairsAt.below {w w' : World} {a : Option Addr} {n : Nat} (h : PairsAt w a n) (hb : Below w.heap.size w w') : PairsAt w' a n := by
  intro hn
  obtain ⟨b, off, ha, hc⟩ := h hn
  refine ⟨b, off, ha, fun i hi => ?_⟩
  obtain ⟨x, y, h0, h1⟩ := hc i hi
  exact ⟨x, y, cell_below hb h0, cell_below hb h1⟩

/-- A row of integers. -/
def IntRow (w : World) (b : Nat) (n : Nat) : Prop := ∃ g : Nat → Value, w.rowIs b 24 n g ∧ ∀ j, ∃ z : Int, g j = .int .i64 z

theorem IntRow.made (w : World) (n : Nat) : IntRow (w.alloc (.cells (madeCells #[.int .i64 0, .int .i64 0] (n * 2)) 24)) w.heap.size (n * 2) := by
  refine ⟨fun _ => .int .i64 0, (rowIs_made' _ _ _ _).congr fun i hi => ?_, fun _ => ⟨0, rfl⟩⟩
  have : i % 2 = 0 ∨ i % 2 = 1 := by omega
  rcases this with h | h <;> simp [h]

theorem IntRow.set2 {w : World} {b n : Nat} (h : IntRow w b n) (k : Nat) (x y : Int) : IntRow ((w.setCell ⟨b, k * 2, Option.none⟩ (.int .i64 x)).setCell ⟨b, k * 2 + 1, Option.none⟩ (.int .i64 y)) b n := by
  obtain ⟨g, hr, hg⟩ := h
  refine ⟨_, (hr.set _ _).set _ _, fun j => ?_⟩
  by_cases h1 : j = k * 2 + 1
  · exact ⟨y, if_pos h1⟩
  · by_cases h2 : j = k * 2
    · exact ⟨x, by simp only [if_neg h1, if_pos h2]⟩
    · obtain ⟨z, hz⟩ := hg j
      exact ⟨z, by simp only [if_neg h1, if_neg h2, hz]⟩

theorem IntRow.pairs {w : World} {b n : Nat} (h : IntRow w b (n * 2)) : PairsAt w (some ⟨b, 0, Option.none⟩) n := by
  intro _
  obtain ⟨g, hr, hg⟩ := h
  refine ⟨b, 0, rfl, fun i hi => ?_⟩
  obtain ⟨x, hx⟩ := hg (i * 2)
  obtain ⟨y, hy⟩ := hg (i * 2 + 1)
  simp only [Nat.zero_add]
  exact ⟨x, y, by rw [hr.cell (by omega), hx], by rw [hr.cell (by omega), hy]⟩

/-- The law's own record of a node. -/
def stF (c0 c1 s p f col : Int) (d : Bool) : Nat → Value
  | 0 => .int .i64 c0
  | 1 => .int .i64 c1
  | 2 => .int .i64 s
  | 3 => .int .i64 p
  | 4 => .int .i64 f
  | 9 => .int .u32 0
  | 10 => .int .u8 col
  | 11 => .bool d
  | _ => .int .i64 0

def StAt (w : World) (b : Nat) (c0 c1 s p f col : Int) (d : Bool) : Prop := w.rowIs b 33 12 (stF c0 c1 s p f col d)

theorem StAt.cells {w : World} {b : Nat} {c0 c1 s p f col : Int} {d : Bool} (h : StAt w b c0 c1 s p f col d) :
    w.cell? ⟨b, 0, Option.none⟩ = some (.int .i64 c0) ∧ w.cell? ⟨b, 1, Option.none⟩ = some (.int .i64 c1) ∧ w.cell? ⟨b, 2, Option.none⟩ = some (.int .i64 s) ∧ w.cell? ⟨b, 3, Option.none⟩ = some (.int .i64 p) ∧
    w.cell? ⟨b, 4, Option.none⟩ = some (.int .i64 f) ∧ w.cell? ⟨b, 5, Option.none⟩ = some (.int .i64 0) ∧ w.cell? ⟨b, 6, Option.none⟩ = some (.int .i64 0) ∧ w.cell? ⟨b, 7, Option.none⟩ = some (.int .i64 0) ∧
    w.cell? ⟨b, 8, Option.none⟩ = some (.int .i64 0) ∧ w.cell? ⟨b, 9, Option.none⟩ = some (.int .u32 0) ∧ w.cell? ⟨b, 10, Option.none⟩ = some (.int .u8 col) ∧ w.cell? ⟨b, 11, Option.none⟩ = some (.bool d) :=
  ⟨World.rowIs.cell h (i := 0) (by decide), World.rowIs.cell h (i := 1) (by decide), World.rowIs.cell h (i := 2) (by decide), World.rowIs.cell h (i := 3) (by decide), World.rowIs.cell h (i := 4) (by decide), World.rowIs.cell h (i := 5) (by decide),
    World.rowIs.cell h (i := 6) (by decide), World.rowIs.cell h (i := 7) (by decide), World.rowIs.cell h (i := 8) (by decide), World.rowIs.cell h (i := 9) (by decide), World.rowIs.cell h (i := 10) (by decide), World.rowIs.cell h (i := 11) (by decide)⟩

/-- Twelve stores into one block. -/
abbrev put12 (w : World) (b : Nat) (v0 v1 v2 v3 v4 v5 v6 v7 v8 v9 v10 v11 : Value) : World :=
  (((((((((((w.setCell ⟨b, 0, Option.none⟩ v0).setCell ⟨b, 1, Option.none⟩ v1).setCell ⟨b, 2, Option.none⟩ v2).setCell ⟨b, 3, Option.none⟩ v3).setCell ⟨b, 4, Option.none⟩ v4).setCell ⟨b, 5, Option.none⟩ v5).setCell ⟨b, 6, Option.none⟩ v6).setCell ⟨b, 7, Option.none⟩ v7).setCell ⟨b, 8, Option.none⟩ v8).setCell ⟨b, 9, Option.none⟩ v9).setCell ⟨b, 10, Option.none⟩ v10).setCell ⟨b, 11, Option.none⟩ v11

theorem StAt.put {w : World} {b : Nat} {c0 c1 s p f col : Int} {d : Bool} (h : StAt w b c0 c1 s p f col d) (c0' c1' s' p' f' col' : Int) (d' : Bool) :
    StAt (put12 w b (.int .i64 c0') (.int .i64 c1') (.int .i64 s') (.int .i64 p') (.int .i64 f') (.int .i64 0) (.int .i64 0) (.int .i64 0) (.int .i64 0) (.int .u32 0) (.int .u8 col') (.bool d')) b c0' c1' s' p' f' col' d' := by
  refine World.rowIs.congr ((((((((((((World.rowIs.set h 0 _).set 1 _).set 2 _).set 3 _).set 4 _).set 5 _).set 6 _).set 7 _).set 8 _).set 9 _).set 10 _).set 11 _) fun i hi => ?_
  have : i = 0 ∨ i = 1 ∨ i = 2 ∨ i = 3 ∨ i = 4 ∨ i = 5 ∨ i = 6 ∨ i = 7 ∨ i = 8 ∨ i = 9 ∨ i = 10 ∨ i = 11 := by omega
  rcases this with rfl | rfl | rfl | rfl | rfl | rfl | rfl | rfl | rfl | rfl | rfl | rfl <;> rfl

theorem put12_block (w : World) (b k : Nat) (hk : k ≠ b) (v0 v1 v2 v3 v4 v5 v6 v7 v8 v9 v10 v11 : Value) : (put12 w b v0 v1 v2 v3 v4 v5 v6 v7 v8 v9 v10 v11).heap[k]? = w.heap[k]? := by
  unfold put12
  repeat rw [Below.heap_setCell _ _ _ _ hk]

theorem put12_below {B : Nat} {w wr : World} (h : Below B w wr) (b : Nat) (hb : B ≤ b) (v0 v1 v2 v3 v4 v5 v6 v7 v8 v9 v10 v11 : Value) : Below B w (put12 wr b v0 v1 v2 v3 v4 v5 v6 v7 v8 v9 v10 v11) := by
  unfold put12
  exact ((((((((((((h.setCell (p := ⟨b, _, Option.none⟩) hb _).setCell (p := ⟨b, _, Option.none⟩) hb _).setCell (p := ⟨b, _, Option.none⟩) hb _).setCell (p := ⟨b, _, Option.none⟩) hb _).setCell (p := ⟨b, _, Option.none⟩) hb _).setCell (p := ⟨b, _, Option.none⟩) hb _).setCell (p := ⟨b, _, Option.none⟩) hb _).setCell (p := ⟨b, _, Option.none⟩) hb _).setCell (p := ⟨b, _, Option.none⟩) hb _).setCell (p := ⟨b, _, Option.none⟩) hb _).setCell (p := ⟨b, _, Option.none⟩) hb _).setCell (p := ⟨b, _, Option.none⟩) hb _)

theorem poll7 (proto alpha beta rounds v0 v1 c0 c1 s f col pr : Int) (d : Bool) (i k : Nat) (w : World) (hp : proto = 0 ∨ proto = 1 ∨ proto = 2) (hi : i ≤ 65536) (hI : Inv proto i k c0 c1 s f col pr) :
    Calls Tryd.prog 7 #[.pointer (some ⟨w.heap.size, 0, Option.none⟩), .agg #[.int .u8 proto, .int .i64 0, .int .i64 alpha, .int .i64 beta, .int .i64 rounds, .int .i64 0, .int .u8 0, .int .i64 0], .pointer (some ⟨w.heap.size + 1, 0, Option.none⟩)] ((w.alloc (ndV c0 c1 s i f v0 v1 col d)).alloc (prO pr))
      (PolledGood w proto beta rounds (outc v0 v1 alpha) i k pr) := by
  rcases hp with rfl | rfl | rfl
  · exact poll7_0 alpha beta rounds v0 v1 c0 c1 s f col pr d i k w hi hI
  · exact poll7_1 alpha beta rounds v0 v1 c0 c1 s f col pr d i k w hi hI
  · exact poll7_2 alpha beta rounds v0 v1 c0 c1 s f col pr d i k w hi hI
end Go.Proofs.Qxb6601328aDoor
