import Derived.Test.Qxb6001688aFmtProg
import Derived.Test.Qxb6001688aFmtBase
namespace Go.Proofs.Qxb6001688aFmt
open Go.RowKit Go.Own

theorem Tryf.info3 : (Tryf.prog.info? 3).map (fun i => (i.zero, i.size, i.bytes)) = some (some (.int .i64 0), 1, 8) := by kernel_rfl
theorem Tryf.info4 : (Tryf.prog.info? 4).map (fun i => (i.zero, i.size, i.bytes)) = some (some (.bool false), 1, 1) := by kernel_rfl
theorem Tryf.info5 : (Tryf.prog.info? 5).map (fun i => (i.zero, i.size, i.bytes)) = some (some (.int .u8 0), 1, 1) := by kernel_rfl
theorem Tryf.info57 : (Tryf.prog.info? 57).map (fun i => (i.zero, i.size, i.bytes)) = some (some (.agg #[.int .i64 0, .int .i64 0, .bool false, .slice Option.none 0 0]), 4, 48) := by kernel_rfl
theorem Tryf.info81 : (Tryf.prog.info? 81).map (fun i => (i.zero, i.size, i.bytes)) = some (some (.agg #[.int .i64 0, .int .i64 0, .bool false, .slice Option.none 0 0, .slice Option.none 0 0]), 5, 72) := by kernel_rfl

theorem nil49 (w : World) (a : Option Addr) (n c : Nat) : (binOp .eql 49 (.slice a n c) (.slice Option.none 0 0)).run Tryf.prog w = .ok (.bool a.isNone) w := Lib.run_eql_slice_nil w 49 3 a n c 0 0 Tryf.underlying49
theorem nil50 (w : World) (a : Option Addr) (n c : Nat) : (binOp .eql 50 (.slice a n c) (.slice Option.none 0 0)).run Tryf.prog w = .ok (.bool a.isNone) w := Lib.run_eql_slice_nil w 50 4 a n c 0 0 Tryf.underlying50
theorem nil26 (w : World) (a : Option Addr) (n c : Nat) : (binOp .eql 26 (.slice a n c) (.slice Option.none 0 0)).run Tryf.prog w = .ok (.bool a.isNone) w := Lib.run_eql_slice_nil w 26 5 a n c 0 0 Tryf.underlying26

/-- What a clone leaves: nil of nil; else a new row at the heap's end. -/
def Cloned (w w' : World) (a : Option Addr) (n : Nat) (f : Nat → Value) (a' : Option Addr) (c' : Nat) : Prop :=
  Below w.heap.size w w' ∧ (a' = Option.none ↔ a = Option.none) ∧ SliceAt w' a' n c' f ∧ (∀ b off, a' = some ⟨b, off, Option.none⟩ → w.heap.size ≤ b)

set_option maxHeartbeats 400000 in
theorem cloneInts_some (ad : Addr) (n c : Nat) (x : Nat → Int) (w : World) (hn : n ≤ 1048576) (h : SliceAt w (some ad) n c (fun i => .int .i64 (x i))) :
    Calls Tryf.prog 24 #[.slice (some ad) n c] w fun e w' => e = .returned (.slice (some ⟨w.heap.size, 0, Option.none⟩) n n) ∧ Below w.heap.size w w' ∧ w'.rowIs w.heap.size 3 n (fun i => .int .i64 (x i)) := by
  have hmk := run_make_row' (P := Tryf.prog) 49 3 (.int .i64 0) 8 Tryf.underlying49 Tryf.info3 rfl .i64 .i64 n (by omega) (by omega)
  have hnl := nil49
  go_enter Tryf.func24, Tryf.ntmps24
  go_wp2
  go_loopw [4] (fun i wr => ∃ k : Nat, k ≤ n ∧ i = .int .i64 k ∧ Below w.heap.size w wr ∧ wr.rowIs w.heap.size 3 n (fun i => if i < k then .int .i64 (x i) else .int .i64 0)) (fun i _ => n - (intOf i).toNat)
  case atStart =>
    refine ⟨0, Nat.zero_le _, rfl, (Below.refl _ _).alloc (Nat.le_refl _) _, ?_⟩
    simpa using World.rowIs_made w (.int .i64 0) n 3
  case round =>
    obtain ⟨k, hk, rfl, hb, hrow⟩ := hrel
    by_cases hlt : k < n
    · obtain ⟨b, off, hb1, hcs⟩ := h.cells (by omega)
      cases hb1
      have hck := cell_below hb (hcs k hlt)
      have hd := hrow.cell hlt
      have hf := hrow.frozen k
      clear hcs
      go_wp2
      go_roundw
      case rel => exact ⟨k + 1, by omega, by go_num, hb.setCell (Nat.le_refl _) _, (hrow.set k _).congr fun i hi => fill_step i k (fun i => .int .i64 (x i)) _⟩
      case measure => simp [intOf]; omega
    · go_wp2
      go_ret
      exact ⟨rfl, hb, hrow.congr fun i hi => if_pos (by omega)⟩

theorem cloneInts_any (a : Option Addr) (n c : Nat) (x : Nat → Int) (w : World) (hn : n ≤ 1048576) (h : SliceAt w a n c (fun i => .int .i64 (x i))) :
    Calls Tryf.prog 24 #[.slice a n c] w fun e w' => ∃ a' c', e = .returned (.slice a' n c') ∧ Cloned w w' a n (fun i => .int .i64 (x i)) a' c' := by
  cases a with
  | some ad =>
    refine (cloneInts_some ad n c x w hn h).mono ?_
    rintro e w' ⟨rfl, hb, hrow⟩
    exact ⟨_, _, rfl, hb, by simp, SliceAt.of_row hrow, fun b off e => by cases e; exact Nat.le_refl _⟩
  | none =>
    have hc := h.nil rfl
    have hn0 : n = 0 := by have := h.cap; omega
    subst hn0
    have hnl := nil49
    go_enter Tryf.func24, Tryf.ntmps24
    go_wp2
    go_ret
    exact ⟨_, _, rfl, Below.refl _ _, Iff.rfl, SliceAt.of_nil _ _, fun b off e => by cases e⟩
set_option maxHeartbeats 400000 in
theorem cloneBools_some (ad : Addr) (n c : Nat) (x : Nat → Bool) (w : World) (hn : n ≤ 1048576) (h : SliceAt w (some ad) n c (fun i => .bool (x i))) :
    Calls Tryf.prog 25 #[.slice (some ad) n c] w fun e w' => e = .returned (.slice (some ⟨w.heap.size, 0, Option.none⟩) n n) ∧ Below w.heap.size w w' ∧ w'.rowIs w.heap.size 4 n (fun i => .bool (x i)) := by
  have hmk := run_make_row' (P := Tryf.prog) 50 4 (.bool false) 1 Tryf.underlying50 Tryf.info4 rfl .i64 .i64 n (by omega) (by omega)
  have hnl := nil50
  go_enter Tryf.func25, Tryf.ntmps25
  go_wp2
  go_loopw [4] (fun i wr => ∃ k : Nat, k ≤ n ∧ i = .int .i64 k ∧ Below w.heap.size w wr ∧ wr.rowIs w.heap.size 4 n (fun i => if i < k then .bool (x i) else .bool false)) (fun i _ => n - (intOf i).toNat)
  case atStart =>
    refine ⟨0, Nat.zero_le _, rfl, (Below.refl _ _).alloc (Nat.le_refl _) _, ?_⟩
    simpa using World.rowIs_made w (.bool false) n 4
  case round =>
    obtain ⟨k, hk, rfl, hb, hrow⟩ := hrel
    by_cases hlt : k < n
    · obtain ⟨b, off, hb1, hcs⟩ := h.cells (by omega)
      cases hb1
      have hck := cell_below hb (hcs k hlt)
      have hd := hrow.cell hlt
      have hf := hrow.frozen k
      clear hcs
      go_wp2
      go_roundw
      case rel => exact ⟨k + 1, by omega, by go_num, hb.setCell (Nat.le_refl _) _, (hrow.set k _).congr fun i hi => fill_step i k (fun i => .bool (x i)) _⟩
      case measure => simp [intOf]; omega
    · go_wp2
      go_ret
      exact ⟨rfl, hb, hrow.congr fun i hi => if_pos (by omega)⟩

theorem cloneBools_any (a : Option Addr) (n c : Nat) (x : Nat → Bool) (w : World) (hn : n ≤ 1048576) (h : SliceAt w a n c (fun i => .bool (x i))) :
    Calls Tryf.prog 25 #[.slice a n c] w fun e w' => ∃ a' c', e = .returned (.slice a' n c') ∧ Cloned w w' a n (fun i => .bool (x i)) a' c' := by
  cases a with
  | some ad =>
    refine (cloneBools_some ad n c x w hn h).mono ?_
    rintro e w' ⟨rfl, hb, hrow⟩
    exact ⟨_, _, rfl, hb, by simp, SliceAt.of_row hrow, fun b off e => by cases e; exact Nat.le_refl _⟩
  | none =>
    have hc := h.nil rfl
    have hn0 : n = 0 := by have := h.cap; omega
    subst hn0
    have hnl := nil50
    go_enter Tryf.func25, Tryf.ntmps25
    go_wp2
    go_ret
    exact ⟨_, _, rfl, Below.refl _ _, Iff.rfl, SliceAt.of_nil _ _, fun b off e => by cases e⟩
set_option maxHeartbeats 400000 in
theorem cloneBytes_some (ad : Addr) (n c : Nat) (x : Nat → Int) (w : World) (hn : n ≤ 1048576) (h : SliceAt w (some ad) n c (fun i => .int .u8 (x i))) :
    Calls Tryf.prog 26 #[.slice (some ad) n c] w fun e w' => e = .returned (.slice (some ⟨w.heap.size, 0, Option.none⟩) n n) ∧ Below w.heap.size w w' ∧ w'.rowIs w.heap.size 5 n (fun i => .int .u8 (x i)) := by
  have hmk := run_make_row' (P := Tryf.prog) 26 5 (.int .u8 0) 1 Tryf.underlying26 Tryf.info5 rfl .i64 .i64 n (by omega) (by omega)
  have hnl := nil26
  go_enter Tryf.func26, Tryf.ntmps26
  go_wp2
  go_loopw [4] (fun i wr => ∃ k : Nat, k ≤ n ∧ i = .int .i64 k ∧ Below w.heap.size w wr ∧ wr.rowIs w.heap.size 5 n (fun i => if i < k then .int .u8 (x i) else .int .u8 0)) (fun i _ => n - (intOf i).toNat)
  case atStart =>
    refine ⟨0, Nat.zero_le _, rfl, (Below.refl _ _).alloc (Nat.le_refl _) _, ?_⟩
    simpa using World.rowIs_made w (.int .u8 0) n 5
  case round =>
    obtain ⟨k, hk, rfl, hb, hrow⟩ := hrel
    by_cases hlt : k < n
    · obtain ⟨b, off, hb1, hcs⟩ := h.cells (by omega)
      cases hb1
      have hck := cell_below hb (hcs k hlt)
      have hd := hrow.cell hlt
      have hf := hrow.frozen k
      clear hcs
      go_wp2
      go_roundw
      case rel => exact ⟨k + 1, by omega, by go_num, hb.setCell (Nat.le_refl _) _, (hrow.set k _).congr fun i hi => fill_step i k (fun i => .int .u8 (x i)) _⟩
      case measure => simp [intOf]; omega
    · go_wp2
      go_ret
      exact ⟨rfl, hb, hrow.congr fun i hi => if_pos (by omega)⟩

theorem cloneBytes_any (a : Option Addr) (n c : Nat) (x : Nat → Int) (w : World) (hn : n ≤ 1048576) (h : SliceAt w a n c (fun i => .int .u8 (x i))) :
    Calls Tryf.prog 26 #[.slice a n c] w fun e w' => ∃ a' c', e = .returned (.slice a' n c') ∧ Cloned w w' a n (fun i => .int .u8 (x i)) a' c' := by
  cases a with
  | some ad =>
    refine (cloneBytes_some ad n c x w hn h).mono ?_
    rintro e w' ⟨rfl, hb, hrow⟩
    exact ⟨_, _, rfl, hb, by simp, SliceAt.of_row hrow, fun b off e => by cases e; exact Nat.le_refl _⟩
  | none =>
    have hc := h.nil rfl
    have hn0 : n = 0 := by have := h.cap; omega
    subst hn0
    have hnl := nil26
    go_enter Tryf.func26, Tryf.ntmps26
    go_wp2
    go_ret
    exact ⟨_, _, rfl, Below.refl _ _, Iff.rfl, SliceAt.of_nil _ _, fun b off e => by cases e⟩

/-- Some bool comes back; the world is as it was. -/
def SomeBool (w : World) (e : Ending) (w' : World) : Prop := ∃ b, e = .returned (.bool b) ∧ w = w'

set_option maxHeartbeats 1000000 in
theorem zzBytes23 (a0 a1 a2 a3 a4 a5 : Option Addr) (n0 c0 n1 c1 n2 c2 n3 c3 n4 c4 n5 c5 : Nat) (w : World) :
    Calls Tryf.prog 23 #[.slice a0 n0 c0, .slice a1 n1 c1, .slice a2 n2 c2, .slice a3 n3 c3, .slice a4 n4 c4, .slice a5 n5 c5] w (SomeBool w) := by
  go_enter Tryf.func23, Tryf.ntmps23
  go_wp2
  all_goals (go_ret; exact ⟨_, rfl, rfl⟩)
end Go.Proofs.Qxb6001688aFmt
