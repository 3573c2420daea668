import Derived.Test.Qxb6001688aFmtClone
namespace Go.Proofs.Qxb6001688aFmt
open Go.RowKit Go.Own

/-- A field as it lies in memory. -/
structure Fld where
  cls : Int
  tag : Int
  comp : Bool
  ba : Option Addr
  bn : Nat
  bc : Nat

/-- The cells of the first k fields of a row, 4 cells a field. -/
def FldRow (g : Nat → Value) (k : Nat) (F : Nat → Fld) : Prop :=
  ∀ i, i < k → g (i * 4) = .int .i64 (F i).cls ∧ g (i * 4 + 1) = .int .i64 (F i).tag ∧ g (i * 4 + 2) = .bool (F i).comp ∧ g (i * 4 + 3) = .slice (F i).ba (F i).bn (F i).bc

def put4 (g : Nat → Value) (k : Nat) (v0 v1 v2 v3 : Value) (j : Nat) : Value := if j = k * 4 + 3 then v3 else if j = k * 4 + 2 then v2 else if j = k * 4 + 1 then v1 else if j = k * 4 then v0 else g j

theorem rowIs_set4 {w : World} {b : Nat} {t : TypeId} {n : Nat} {g : Nat → Value} (h : w.rowIs b t n g) (k : Nat) (v0 v1 v2 v3 : Value) :
    ((((w.setCell ⟨b, k * 4, Option.none⟩ v0).setCell ⟨b, k * 4 + 1, Option.none⟩ v1).setCell ⟨b, k * 4 + 2, Option.none⟩ v2).setCell ⟨b, k * 4 + 3, Option.none⟩ v3).rowIs b t n (put4 g k v0 v1 v2 v3) :=
  (((h.set _ v0).set _ v1).set _ v2).set _ v3

theorem FldRow.put {g : Nat → Value} {k : Nat} {F : Nat → Fld} (h : FldRow g k F) (f : Fld) : FldRow (put4 g k (.int .i64 f.cls) (.int .i64 f.tag) (.bool f.comp) (.slice f.ba f.bn f.bc)) (k + 1) (fun i => if i = k then f else F i) := by
  intro i hi
  by_cases e : i = k
  · subst e
    simp only [if_true]
    unfold put4
    refine ⟨?_, ?_, ?_, ?_⟩
    · rw [if_neg (by omega), if_neg (by omega), if_neg (by omega), if_pos rfl]
    · rw [if_neg (by omega), if_neg (by omega), if_pos rfl]
    · rw [if_neg (by omega), if_pos rfl]
    · rw [if_pos rfl]
  · simp only [if_neg e]
    obtain ⟨h0, h1, h2, h3⟩ := h i (by omega)
    unfold put4
    refine ⟨?_, ?_, ?_, ?_⟩ <;> rw [if_neg (by omega), if_neg (by omega), if_neg (by omega), if_neg (by omega)] <;> assumption

theorem setCell4_below {B : Nat} {w wr : World} (h : Below B w wr) (b k : Nat) (hb : B ≤ b) (v0 v1 v2 v3 : Value) :
    Below B w ((((wr.setCell ⟨b, k * 4, Option.none⟩ v0).setCell ⟨b, k * 4 + 1, Option.none⟩ v1).setCell ⟨b, k * 4 + 2, Option.none⟩ v2).setCell ⟨b, k * 4 + 3, Option.none⟩ v3) :=
  (((h.setCell (p := ⟨b, _, Option.none⟩) hb v0).setCell (p := ⟨b, _, Option.none⟩) hb v1).setCell (p := ⟨b, _, Option.none⟩) hb v2).setCell (p := ⟨b, _, Option.none⟩) hb v3

/-- Fields that lie in memory, 4 cells a field. -/
def FldsAt (w : World) (a : Option Addr) (n : Nat) (F : Nat → Fld) : Prop :=
  0 < n → ∃ b off, a = some ⟨b, off, Option.none⟩ ∧ ∀ i, i < n → w.cell? ⟨b, off + i * 4, Option.none⟩ = some (.int .i64 (F i).cls) ∧ w.cell? ⟨b, off + i * 4 + 1, Option.none⟩ = some (.int .i64 (F i).tag) ∧
    w.cell? ⟨b, off + i * 4 + 2, Option.none⟩ = some (.bool (F i).comp) ∧ w.cell? ⟨b, off + i * 4 + 3, Option.none⟩ = some (.slice (F i).ba (F i).bn (F i).bc)

theorem FldsAt.of_row {w : World} {b : Nat} {t : TypeId} {n : Nat} {g : Nat → Value} {F : Nat → Fld} (h : w.rowIs b t (n * 4) g) (hg : FldRow g n F) : FldsAt w (some ⟨b, 0, Option.none⟩) n F := by
  intro _
  refine ⟨b, 0, rfl, fun i hi => ?_⟩
  obtain ⟨h0, h1, h2, h3⟩ := hg i hi
  simp only [Nat.zero_add]
  exact ⟨by rw [h.cell (by omega), h0], by rw [h.cell (by omega), h1], by rw [h.cell (by omega), h2], by rw [h.cell (by omega), h3]⟩

theorem FldsAt.below {w w' : World} {a : Option Addr} {n : Nat} {F : Nat → Fld} (h : FldsAt w a n F) (hb : Below w.heap.size w w') : FldsAt w' a n F := by
  intro hn
  obtain ⟨b, off, ha, hc⟩ := h hn
  refine ⟨b, off, ha, fun i hi => ?_⟩
  obtain ⟨h0, h1, h2, h3⟩ := hc i hi
  exact ⟨cell_below hb h0, cell_below hb h1, cell_below hb h2, cell_below hb h3⟩

theorem FldsAt.setOther {w : World} {a : Option Addr} {n : Nat} {F : Nat → Fld} (h : FldsAt w a n F) {p : Addr} (hp : ∀ b off, a = some ⟨b, off, Option.none⟩ → b ≠ p.block) (u : Value) : FldsAt (w.setCell p u) a n F := by
  intro hn
  obtain ⟨b, off, ha, hc⟩ := h hn
  refine ⟨b, off, ha, fun i hi => ?_⟩
  obtain ⟨h0, h1, h2, h3⟩ := hc i hi
  have e : ∀ o, (w.setCell p u).cell? ⟨b, o, Option.none⟩ = w.cell? ⟨b, o, Option.none⟩ := fun o => World.cell?_of_block (w := w) (Below.heap_setCell _ _ _ _ (hp b off ha))
  exact ⟨(e _).trans h0, (e _).trans h1, (e _).trans h2, (e _).trans h3⟩

/-- A field's bytes lie in memory. -/
def BytesAt (w : World) (f : Fld) : Prop := f.bn ≤ 1048576 ∧ ∃ q : Nat → Int, SliceAt w f.ba f.bn f.bc (fun j => .int .u8 (q j))

theorem BytesAt.below {w w' : World} {f : Fld} (h : BytesAt w f) (hb : Below w.heap.size w w') : BytesAt w' f := by
  obtain ⟨h1, q, h2⟩ := h
  exact ⟨h1, q, h2.below hb⟩

theorem run_make57 (n : Nat) (h : n ≤ 1048576) (w : World) : (Instr.makeSlice 54 (.int .i64 (n : Int)) (.int .i64 (n : Int))).run Tryf.prog w = .ok (.slice (some ⟨w.heap.size, 0, Option.none⟩) n n) (w.alloc (.cells (madeCells #[.int .i64 0, .int .i64 0, .bool false, .slice Option.none 0 0] (n * 4)) 57)) := by
  obtain ⟨i, hi, hzz⟩ := Option.map_eq_some_iff.1 Tryf.info57
  simp only [Prod.mk.injEq] at hzz
  obtain ⟨hz, hs, hb⟩ := hzz
  have hr := run_make (P := Tryf.prog) w 54 57 i _ Tryf.underlying54 hi hz .i64 .i64 n n (by omega) (Int.le_refl _) (by rw [hb]; omega) (by omega)
  simp only [Int.toNat_natCast, hs] at hr
  exact hr

theorem rowIs_made' (w : World) (z : Array Value) (n : Nat) (t : TypeId) : (w.alloc (.cells (madeCells z n) t)).rowIs w.heap.size t n (fun i => z[i % z.size]!) :=
  ⟨_, Deep.blk_alloc_new _ _, size_madeCells _ _, fun i hi => by simp [madeCells, hi]⟩

/-- What zzE1Build leaves. -/
def BuildPost (n : Nat) (x y : Nat → Int) (b : Nat → Bool) (w : World) (e : Ending) (w' : World) : Prop :=
  ∃ F : Nat → Fld, e = .returned (.slice (some ⟨w.heap.size, 0, Option.none⟩) n n) ∧ Below w.heap.size w w' ∧ FldsAt w' (some ⟨w.heap.size, 0, Option.none⟩) n F ∧ ∀ i, i < n → (F i).cls = x i ∧ (F i).tag = y i ∧ (F i).comp = b i ∧ BytesAt w' (F i)

theorem built_step {n k B : Nat} {x y : Nat → Int} {b : Nat → Bool} {p : Int} {g : Nat → Value} {F : Nat → Fld} {w wr : World} (hb : Below B w wr) (hB : B < wr.heap.size) (hrow : wr.rowIs B 57 (n * 4) g) (hg : FldRow g k F)
    (hF : ∀ i, i < k → (F i).cls = x i ∧ (F i).tag = y i ∧ (F i).comp = b i ∧ (∃ c, (F i).ba = some ⟨c, 0, Option.none⟩ ∧ (F i).bn = 1 ∧ (F i).bc = 1 ∧ B < c ∧ ∃ q, wr.cell? ⟨c, 0, Option.none⟩ = some (.int .u8 q))) :
    ∀ w', w' = ((((((wr.alloc (.cells #[.int .u8 p] 5)).setCell ⟨B, k * 4, Option.none⟩ (.int .i64 (x k))).setCell ⟨B, k * 4 + 1, Option.none⟩ (.int .i64 (y k))).setCell ⟨B, k * 4 + 2, Option.none⟩ (.bool (b k))).setCell ⟨B, k * 4 + 3, Option.none⟩ (.slice (some ⟨wr.heap.size, 0, Option.none⟩) 1 1)).drew) →
    Below B w w' ∧ B < w'.heap.size ∧ ∃ g F, w'.rowIs B 57 (n * 4) g ∧ FldRow g (k + 1) F ∧ ∀ i, i < k + 1 → (F i).cls = x i ∧ (F i).tag = y i ∧ (F i).comp = b i ∧ (∃ c, (F i).ba = some ⟨c, 0, Option.none⟩ ∧ (F i).bn = 1 ∧ (F i).bc = 1 ∧ B < c ∧ ∃ q, w'.cell? ⟨c, 0, Option.none⟩ = some (.int .u8 q)) := by
  rintro w' rfl
  have hcell : ∀ c o, B < c → ((((((wr.alloc (.cells #[.int .u8 p] 5)).setCell ⟨B, k * 4, Option.none⟩ (.int .i64 (x k))).setCell ⟨B, k * 4 + 1, Option.none⟩ (.int .i64 (y k))).setCell ⟨B, k * 4 + 2, Option.none⟩ (.bool (b k))).setCell ⟨B, k * 4 + 3, Option.none⟩ (.slice (some ⟨wr.heap.size, 0, Option.none⟩) 1 1)).drew).cell? ⟨c, o, Option.none⟩ = (wr.alloc (.cells #[.int .u8 p] 5)).cell? ⟨c, o, Option.none⟩ := by
    intro c o hc
    refine World.cell?_of_block (w := wr.alloc (.cells #[.int .u8 p] 5)) ?_
    show (World.setCell _ _ _).heap[c]? = _
    rw [Below.heap_setCell _ _ _ _ (by show c ≠ B; omega), Below.heap_setCell _ _ _ _ (by show c ≠ B; omega), Below.heap_setCell _ _ _ _ (by show c ≠ B; omega), Below.heap_setCell _ _ _ _ (by show c ≠ B; omega)]
  refine ⟨(setCell4_below (hb.alloc (Nat.le_of_lt hB) _) B k (Nat.le_refl _) _ _ _ _).drew, ?_, _, fun i => if i = k then ⟨x k, y k, b k, some ⟨wr.heap.size, 0, Option.none⟩, 1, 1⟩ else F i, (rowIs_set4 (hrow.alloc _) k _ _ _ _).drew, hg.put ⟨x k, y k, b k, some ⟨wr.heap.size, 0, Option.none⟩, 1, 1⟩, ?_⟩
  · show B < (World.setCell _ _ _).heap.size
    simp [World.setCell]
    omega
  · intro i hi
    by_cases e : i = k
    · subst e
      simp only [if_true]
      exact ⟨trivial, trivial, trivial, wr.heap.size, rfl, trivial, trivial, hB, p, by rw [hcell _ _ hB]; exact cell_new wr _ _ 0 rfl⟩
    · simp only [if_neg e]
      obtain ⟨h0, h1, h2, c, h3, h4, h5, h6, q, h7⟩ := hF i (by omega)
      refine ⟨h0, h1, h2, c, h3, h4, h5, h6, q, ?_⟩
      rw [hcell _ _ h6]
      exact cell_below ((Below.refl _ _).alloc (Nat.le_refl _) _) h7

set_option maxHeartbeats 1000000 in
theorem build27 (a0 a1 a2 a3 : Option Addr) (n c0 c1 c2 c3 : Nat) (x y : Nat → Int) (b : Nat → Bool) (p : Nat → Int) (w : World) (hn : n ≤ 1024)
    (h0 : SliceAt w a0 n c0 (fun i => .int .i64 (x i))) (h1 : SliceAt w a1 n c1 (fun i => .int .i64 (y i))) (h2 : SliceAt w a2 n c2 (fun i => .bool (b i))) (h3 : SliceAt w a3 n c3 (fun i => .int .u8 (p i))) :
    Calls Tryf.prog 27 #[.slice a0 n c0, .slice a1 n c1, .slice a2 n c2, .slice a3 n c3] w (BuildPost n x y b w) := by
  have hmk := run_make57 n (by omega)
  go_enter Tryf.func27, Tryf.ntmps27
  go_wp2
  go_loopw [10] (fun i wr => ∃ k : Nat, k ≤ n ∧ i = .int .i64 k ∧ Below w.heap.size w wr ∧ w.heap.size < wr.heap.size ∧ ∃ (g : Nat → Value) (F : Nat → Fld), wr.rowIs w.heap.size 57 (n * 4) g ∧ FldRow g k F ∧ ∀ i, i < k → (F i).cls = x i ∧ (F i).tag = y i ∧ (F i).comp = b i ∧ (∃ c, (F i).ba = some ⟨c, 0, Option.none⟩ ∧ (F i).bn = 1 ∧ (F i).bc = 1 ∧ w.heap.size < c ∧ ∃ q, wr.cell? ⟨c, 0, Option.none⟩ = some (.int .u8 q))) (fun i _ => n - (intOf i).toNat)
  case atStart =>
    exact ⟨0, Nat.zero_le _, rfl, (Below.refl _ _).alloc (Nat.le_refl _) _, by simp, _, fun _ => ⟨0, 0, false, Option.none, 0, 0⟩, rowIs_made' _ _ _ _, fun i hi => absurd hi (Nat.not_lt_zero _), fun i hi => absurd hi (Nat.not_lt_zero _)⟩
  case round =>
    obtain ⟨k, hk, rfl, hb, hB, g, F, hrow, hg, hF⟩ := hrel
    have HF := hide hF
    have HB := hide hB
    clear hF hB
    by_cases hlt : k < n
    · obtain ⟨b0, o0, e0, hcs0⟩ := h0.cells (by omega)
      obtain ⟨b1, o1, e1, hcs1⟩ := h1.cells (by omega)
      obtain ⟨b2, o2, e2, hcs2⟩ := h2.cells (by omega)
      obtain ⟨b3, o3, e3, hcs3⟩ := h3.cells (by omega)
      cases e0; cases e1; cases e2; cases e3
      have g0 := cell_below hb (hcs0 k hlt)
      have g1 := cell_below hb (hcs1 k hlt)
      have g2 := cell_below hb (hcs2 k hlt)
      have g3 := cell_below hb (hcs3 k hlt)
      have hlti : (k : Int) < (n : Int) := by omega
      have hsz : w.heap.size ≤ wr.heap.size := hb.size
      have hba := hb.alloc hsz (.cells #[.int .u8 (p k)] 5)
      have k0 := cell_below hba (hcs0 k hlt)
      have k1 := cell_below hba (hcs1 k hlt)
      have k2 := cell_below hba (hcs2 k hlt)
      have k3 := cell_below hba (hcs3 k hlt)
      have hra := hrow.alloc (.cells #[.int .u8 (p k)] 5)
      have r0 := hra.cell (i := k * 4) (by omega)
      have r1 := hra.cell (i := k * 4 + 1) (by omega)
      have r2 := hra.cell (i := k * 4 + 2) (by omega)
      have r3 := hra.cell (i := k * 4 + 3) (by omega)
      have f0 := hra.frozen (k * 4)
      have f1 := hra.frozen (k * 4 + 1)
      have f2 := hra.frozen (k * 4 + 2)
      have f3 := hra.frozen (k * 4 + 3)
      clear hcs0 hcs1 hcs2 hcs3
      go_wp2
      go_region
      go_wp2
      go_roundw
      case rel => exact ⟨k + 1, by omega, by go_num, built_step hb (unhide HB) hrow hg (unhide HF) _ rfl⟩
      case measure => simp [intOf]; omega
    · have hkn : k = n := by omega
      subst hkn
      go_wp2
      go_ret
      refine ⟨F, rfl, hb, FldsAt.of_row hrow hg, fun i hi => ?_⟩
      obtain ⟨h0, h1, h2, c, h3, h4, h5, h6, q, h7⟩ := unhide HF i hi
      refine ⟨h0, h1, h2, by omega, fun _ => q, ?_⟩
      rw [h3, h4, h5]
      exact ⟨Nat.le_refl _, fun e => (by cases e), fun _ => ⟨c, 0, rfl, fun j hj => (by rw [show j = 0 from by omega]; exact h7)⟩⟩
end Go.Proofs.Qxb6001688aFmt
