import Derived.Test.Qxb6001688aFmtBuild
import Derived.Deep.QuietTactic
import Derived.BigQuiet
namespace Go.Proofs.Qxb6001688aFmt
open Go.RowKit Go.Own

theorem run_make81 (n : Nat) (h : n ≤ 1048576) (w : World) : (Instr.makeSlice 78 (.int .i64 (n : Int)) (.int .i64 (n : Int))).run Tryf.prog w = .ok (.slice (some ⟨w.heap.size, 0, Option.none⟩) n n) (w.alloc (.cells (madeCells #[.int .i64 0, .int .i64 0, .bool false, .slice Option.none 0 0, .slice Option.none 0 0] (n * 5)) 81)) := by
  obtain ⟨i, hi, hzz⟩ := Option.map_eq_some_iff.1 Tryf.info81
  simp only [Prod.mk.injEq] at hzz
  obtain ⟨hz, hs, hb⟩ := hzz
  have hr := run_make (P := Tryf.prog) w 78 81 i _ Tryf.underlying78 hi hz .i64 .i64 n n (by omega) (Int.le_refl _) (by rw [hb]; omega) (by omega)
  simp only [Int.toNat_natCast, hs] at hr
  exact hr

/-- The cells of the first k raw fields of a row, 5 cells a field. -/
def RawRow (g : Nat → Value) (k : Nat) (F : Nat → Fld) : Prop :=
  ∀ i, i < k → g (i * 5) = .int .i64 (F i).cls ∧ g (i * 5 + 1) = .int .i64 (F i).tag ∧ g (i * 5 + 2) = .bool (F i).comp ∧ g (i * 5 + 3) = .slice (F i).ba (F i).bn (F i).bc ∧ g (i * 5 + 4) = .slice Option.none 0 0

def put5 (g : Nat → Value) (k : Nat) (v0 v1 v2 v3 v4 : Value) (j : Nat) : Value := if j = k * 5 + 4 then v4 else if j = k * 5 + 3 then v3 else if j = k * 5 + 2 then v2 else if j = k * 5 + 1 then v1 else if j = k * 5 then v0 else g j

theorem rowIs_set5 {w : World} {b : Nat} {t : TypeId} {n : Nat} {g : Nat → Value} (h : w.rowIs b t n g) (k : Nat) (v0 v1 v2 v3 v4 : Value) :
    (((((w.setCell ⟨b, k * 5, Option.none⟩ v0).setCell ⟨b, k * 5 + 1, Option.none⟩ v1).setCell ⟨b, k * 5 + 2, Option.none⟩ v2).setCell ⟨b, k * 5 + 3, Option.none⟩ v3).setCell ⟨b, k * 5 + 4, Option.none⟩ v4).rowIs b t n (put5 g k v0 v1 v2 v3 v4) :=
  ((((h.set _ v0).set _ v1).set _ v2).set _ v3).set _ v4

theorem RawRow.put {g : Nat → Value} {k : Nat} {F : Nat → Fld} (h : RawRow g k F) : RawRow (put5 g k (.int .i64 (F k).cls) (.int .i64 (F k).tag) (.bool (F k).comp) (.slice (F k).ba (F k).bn (F k).bc) (.slice Option.none 0 0)) (k + 1) F := by
  intro i hi
  by_cases e : i = k
  · subst e
    unfold put5
    refine ⟨?_, ?_, ?_, ?_, ?_⟩
    · rw [if_neg (by omega), if_neg (by omega), if_neg (by omega), if_neg (by omega), if_pos rfl]
    · rw [if_neg (by omega), if_neg (by omega), if_neg (by omega), if_pos rfl]
    · rw [if_neg (by omega), if_neg (by omega), if_pos rfl]
    · rw [if_neg (by omega), if_pos rfl]
    · rw [if_pos rfl]
  · obtain ⟨h0, h1, h2, h3, h4⟩ := h i (by omega)
    unfold put5
    refine ⟨?_, ?_, ?_, ?_, ?_⟩ <;> rw [if_neg (by omega), if_neg (by omega), if_neg (by omega), if_neg (by omega), if_neg (by omega)] <;> assumption

theorem FldRow.put' {g : Nat → Value} {k : Nat} {F : Nat → Fld} (h : FldRow g k F) : FldRow (put4 g k (.int .i64 (F k).cls) (.int .i64 (F k).tag) (.bool (F k).comp) (.slice (F k).ba (F k).bn (F k).bc)) (k + 1) F := by
  have h1 := h.put (F k)
  intro i hi
  have h2 := h1 i hi
  by_cases e : i = k
  · subst e; simpa using h2
  · simpa [if_neg e] using h2

theorem setCell5_below {B : Nat} {w wr : World} (h : Below B w wr) (b k : Nat) (hb : B ≤ b) (v0 v1 v2 v3 v4 : Value) :
    Below B w (((((wr.setCell ⟨b, k * 5, Option.none⟩ v0).setCell ⟨b, k * 5 + 1, Option.none⟩ v1).setCell ⟨b, k * 5 + 2, Option.none⟩ v2).setCell ⟨b, k * 5 + 3, Option.none⟩ v3).setCell ⟨b, k * 5 + 4, Option.none⟩ v4) :=
  ((((h.setCell (p := ⟨b, _, Option.none⟩) hb v0).setCell (p := ⟨b, _, Option.none⟩) hb v1).setCell (p := ⟨b, _, Option.none⟩) hb v2).setCell (p := ⟨b, _, Option.none⟩) hb v3).setCell (p := ⟨b, _, Option.none⟩) hb v4

/-- Raw fields that lie in memory, 5 cells a field. -/
def RawsAt (w : World) (a : Option Addr) (n : Nat) (F : Nat → Fld) : Prop :=
  0 < n → ∃ b off, a = some ⟨b, off, Option.none⟩ ∧ ∀ i, i < n → w.cell? ⟨b, off + i * 5, Option.none⟩ = some (.int .i64 (F i).cls) ∧ w.cell? ⟨b, off + i * 5 + 1, Option.none⟩ = some (.int .i64 (F i).tag) ∧
    w.cell? ⟨b, off + i * 5 + 2, Option.none⟩ = some (.bool (F i).comp) ∧ w.cell? ⟨b, off + i * 5 + 3, Option.none⟩ = some (.slice (F i).ba (F i).bn (F i).bc) ∧ w.cell? ⟨b, off + i * 5 + 4, Option.none⟩ = some (.slice Option.none 0 0)

theorem RawsAt.of_row {w : World} {b : Nat} {t : TypeId} {n : Nat} {g : Nat → Value} {F : Nat → Fld} (h : w.rowIs b t (n * 5) g) (hg : RawRow g n F) : RawsAt w (some ⟨b, 0, Option.none⟩) n F := by
  intro _
  refine ⟨b, 0, rfl, fun i hi => ?_⟩
  obtain ⟨h0, h1, h2, h3, h4⟩ := hg i hi
  simp only [Nat.zero_add]
  exact ⟨by rw [h.cell (by omega), h0], by rw [h.cell (by omega), h1], by rw [h.cell (by omega), h2], by rw [h.cell (by omega), h3], by rw [h.cell (by omega), h4]⟩

theorem RawsAt.below {w w' : World} {a : Option Addr} {n : Nat} {F : Nat → Fld} (h : RawsAt w a n F) (hb : Below w.heap.size w w') : RawsAt w' a n F := by
  intro hn
  obtain ⟨b, off, ha, hc⟩ := h hn
  refine ⟨b, off, ha, fun i hi => ?_⟩
  obtain ⟨h0, h1, h2, h3, h4⟩ := hc i hi
  exact ⟨cell_below hb h0, cell_below hb h1, cell_below hb h2, cell_below hb h3, cell_below hb h4⟩

/-- What zzToFields leaves. -/
def ToPost (n : Nat) (F : Nat → Fld) (w : World) (e : Ending) (w' : World) : Prop :=
  e = .returned (.slice (some ⟨w.heap.size, 0, Option.none⟩) n n) ∧ Below w.heap.size w w' ∧ RawsAt w' (some ⟨w.heap.size, 0, Option.none⟩) n F

set_option maxHeartbeats 1000000 in
theorem toFields43 (a : Option Addr) (n c : Nat) (F : Nat → Fld) (w : World) (hn : n ≤ 1024) (h : FldsAt w a n F) :
    Calls Tryf.prog 43 #[.slice a n c] w (ToPost n F w) := by
  have hmk := run_make81 n (by omega)
  go_enter Tryf.func43, Tryf.ntmps43
  go_wp2
  go_loopw [10] (fun i wr => ∃ k : Nat, k ≤ n ∧ i = .int .i64 k ∧ Below w.heap.size w wr ∧ ∃ (g : Nat → Value), wr.rowIs w.heap.size 81 (n * 5) g ∧ RawRow g k F) (fun i _ => n - (intOf i).toNat)
  case atStart =>
    exact ⟨0, Nat.zero_le _, rfl, (Below.refl _ _).alloc (Nat.le_refl _) _, _, rowIs_made' _ _ _ _, fun i hi => absurd hi (Nat.not_lt_zero _)⟩
  case round =>
    obtain ⟨k, hk, rfl, hb, g, hrow, hg⟩ := hrel
    by_cases hlt : k < n
    · obtain ⟨b0, o0, e0, hcs⟩ := h (by omega)
      cases e0
      obtain ⟨c0, c1, c2, c3⟩ := hcs k hlt
      replace c0 := cell_below hb c0
      replace c1 := cell_below hb c1
      replace c2 := cell_below hb c2
      replace c3 := cell_below hb c3
      have hlti : (k : Int) < (n : Int) := by omega
      have r0 := hrow.cell (i := k * 5) (by omega)
      have r1 := hrow.cell (i := k * 5 + 1) (by omega)
      have r2 := hrow.cell (i := k * 5 + 2) (by omega)
      have r3 := hrow.cell (i := k * 5 + 3) (by omega)
      have r4 := hrow.cell (i := k * 5 + 4) (by omega)
      have f0 := hrow.frozen (k * 5)
      have f1 := hrow.frozen (k * 5 + 1)
      have f2 := hrow.frozen (k * 5 + 2)
      have f3 := hrow.frozen (k * 5 + 3)
      have f4 := hrow.frozen (k * 5 + 4)
      clear hcs
      go_wp2
      go_region
      go_wp2
      go_roundw
      case rel => exact ⟨k + 1, by omega, by go_num, (setCell5_below hb _ k (Nat.le_refl _) _ _ _ _ _).drew, _, (rowIs_set5 hrow k _ _ _ _ _).drew, hg.put⟩
      case measure => simp [intOf]; omega
    · have hkn : k = n := by omega
      subst hkn
      go_wp2
      go_ret
      exact ⟨rfl, hb, RawsAt.of_row hrow hg⟩

/-- What zzFromRaw leaves. -/
def OnePost (f : Fld) (w : World) (e : Ending) (w' : World) : Prop :=
  e = .returned (.agg #[.int .i64 f.cls, .int .i64 f.tag, .bool f.comp, .slice f.ba f.bn f.bc]) ∧ Below w.heap.size w w'

set_option maxHeartbeats 400000 in
theorem fromRaw46 (f : Fld) (w : World) : Calls Tryf.prog 46 #[.agg #[.int .i64 f.cls, .int .i64 f.tag, .bool f.comp, .slice f.ba f.bn f.bc, .slice Option.none 0 0]] w (OnePost f w) := by
  go_enter Tryf.func46, Tryf.ntmps46
  go_wp2
  exact bodyPost_ret (v := .agg #[.int .i64 f.cls, .int .i64 f.tag, .bool f.comp, .slice f.ba f.bn f.bc]) (by simp [results, Tryf.results46, go_sem]) rfl ⟨rfl, ((Below.refl _ _).alloc (Nat.le_refl _) _).alloc (by simp) _⟩

/-- What zzFromFields leaves. -/
def FromPost (n : Nat) (F : Nat → Fld) (w : World) (e : Ending) (w' : World) : Prop :=
  ∃ a', e = .returned (.slice a' n n) ∧ Below w.heap.size w w' ∧ FldsAt w' a' n F ∧ ∀ b off, a' = some ⟨b, off, Option.none⟩ → w.heap.size ≤ b

set_option maxHeartbeats 1000000 in
theorem fromFields45 (a : Option Addr) (n c : Nat) (F : Nat → Fld) (w : World) (hn : n ≤ 1024) (h : RawsAt w a n F) :
    Calls Tryf.prog 45 #[.slice a n c] w (FromPost n F w) := by
  have hmk := run_make57 n (by omega)
  go_enter Tryf.func45, Tryf.ntmps45
  go_wp2
  go_loopw [10] (fun i wr => ∃ k : Nat, k ≤ n ∧ i = .int .i64 k ∧ Below w.heap.size w wr ∧ w.heap.size < wr.heap.size ∧ ∃ (g : Nat → Value), wr.rowIs w.heap.size 57 (n * 4) g ∧ FldRow g k F) (fun i _ => n - (intOf i).toNat)
  case atStart =>
    exact ⟨0, Nat.zero_le _, rfl, (Below.refl _ _).alloc (Nat.le_refl _) _, by simp, _, rowIs_made' _ _ _ _, fun i hi => absurd hi (Nat.not_lt_zero _)⟩
  case round =>
    obtain ⟨k, hk, rfl, hb, hB, g, hrow, hg⟩ := hrel
    by_cases hlt : k < n
    · obtain ⟨b0, o0, e0, hcs⟩ := h (by omega)
      cases e0
      obtain ⟨c0, c1, c2, c3, c4⟩ := hcs k hlt
      replace c0 := cell_below hb c0
      replace c1 := cell_below hb c1
      replace c2 := cell_below hb c2
      replace c3 := cell_below hb c3
      replace c4 := cell_below hb c4
      have hlti : (k : Int) < (n : Int) := by omega
      clear hcs
      go_wp2_with (go_at_call 46; refine (fromRaw46 (F k) _).mono ?_; rintro e w1 ⟨rfl, hb1⟩; have hrow1 := hrow.of_block (hb1.block _ hB); have r0 := hrow1.cell (i := k * 4) (by omega); have r1 := hrow1.cell (i := k * 4 + 1) (by omega); have r2 := hrow1.cell (i := k * 4 + 2) (by omega); have r3 := hrow1.cell (i := k * 4 + 3) (by omega); have f0 := hrow1.frozen (k * 4); have f1 := hrow1.frozen (k * 4 + 1); have f2 := hrow1.frozen (k * 4 + 2); have f3 := hrow1.frozen (k * 4 + 3))
      go_roundw
      case rel =>
        refine ⟨k + 1, by omega, by go_num, setCell4_below (hb.trans (hb1.mono (Nat.le_of_lt hB))) _ k (Nat.le_refl _) _ _ _ _, ?_, _, rowIs_set4 hrow1 k _ _ _ _, hg.put'⟩
        have := hb1.size
        simp [World.setCell]
        omega
      case measure => simp [intOf]; omega
    · have hkn : k = n := by omega
      subst hkn
      go_wp2
      go_ret
      exact ⟨_, rfl, hb, FldsAt.of_row hrow hg, fun b off e => (by cases e; exact Nat.le_refl _)⟩

/-- What isUniversal leaves. -/
def UniPost (f : Fld) (tag : Int) (comp : Bool) (w : World) (e : Ending) (w' : World) : Prop :=
  e = .returned (.bool (decide (f.cls = 0 ∧ f.tag = tag ∧ f.comp = comp))) ∧ Below w.heap.size w w'

set_option maxHeartbeats 400000 in
theorem isUniversal65 (f : Fld) (tag : Int) (comp : Bool) (w : World) : Calls Tryf.prog 65 #[.agg #[.int .i64 f.cls, .int .i64 f.tag, .bool f.comp, .slice f.ba f.bn f.bc, .slice Option.none 0 0], .int .i64 tag, .bool comp] w (UniPost f tag comp w) := by
  by_cases h1 : f.cls = 0
  · by_cases h2 : f.tag = tag
    · by_cases h3 : f.comp = comp
      · have e1 : (f.cls == 0) = true := by simp [h1]
        have e2 : (f.tag == tag) = true := by simp [h2]
        have e3 : (f.comp == comp) = true := by simp [h3]
        have HE : Hid (decide (f.cls = 0 ∧ f.tag = tag ∧ f.comp = comp) = true) := by simp [Hid, h1, h2, h3]
        clear h1 h2 h3
        go_enter Tryf.func65, Tryf.ntmps65
        go_wp2
        go_ret
        exact ⟨by rw [unhide HE]; rfl, (Below.refl _ _).alloc (Nat.le_refl _) _⟩
      · have e1 : (f.cls == 0) = true := by simp [h1]
        have e2 : (f.tag == tag) = true := by simp [h2]
        have e3 : (f.comp == comp) = false := by simp [h3]
        have HE : Hid (decide (f.cls = 0 ∧ f.tag = tag ∧ f.comp = comp) = false) := by simp [Hid, h3]
        clear h1 h2 h3
        go_enter Tryf.func65, Tryf.ntmps65
        go_wp2
        go_ret
        exact ⟨by rw [unhide HE]; rfl, (Below.refl _ _).alloc (Nat.le_refl _) _⟩
    · have e1 : (f.cls == 0) = true := by simp [h1]
      have e2 : (f.tag == tag) = false := by simp [h2]
      have HE : Hid (decide (f.cls = 0 ∧ f.tag = tag ∧ f.comp = comp) = false) := by simp [Hid, h2]
      clear h1 h2
      go_enter Tryf.func65, Tryf.ntmps65
      go_wp2
      go_ret
      exact ⟨by rw [unhide HE]; rfl, (Below.refl _ _).alloc (Nat.le_refl _) _⟩
  · have e1 : (f.cls == 0) = false := by simp [h1]
    have HE : Hid (decide (f.cls = 0 ∧ f.tag = tag ∧ f.comp = comp) = false) := by simp [Hid, h1]
    clear h1
    go_enter Tryf.func65, Tryf.ntmps65
    go_wp2
    go_ret
    exact ⟨by rw [unhide HE]; rfl, (Below.refl _ _).alloc (Nat.le_refl _) _⟩
end Go.Proofs.Qxb6001688aFmt
