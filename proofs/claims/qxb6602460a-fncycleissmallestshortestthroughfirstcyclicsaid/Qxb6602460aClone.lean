import Derived.Test.Qxb6602460aProg
import Derived.Test.Qxb6602460aBase
namespace Go.Proofs.Qxb6602460a
open Go.RowKit Go.Maps Go.Own

theorem Try.info3 : (Try.prog.info? 3).map (fun i => (i.zero, i.size, i.bytes)) = some (some (.int .i64 0), 1, 8) := by kernel_rfl
theorem Try.info4 : (Try.prog.info? 4).map (fun i => (i.zero, i.size, i.bytes)) = some (some (.bool false), 1, 1) := by kernel_rfl
theorem Try.info9 : (Try.prog.info? 9).map (fun i => (i.zero, i.size, i.bytes)) = some (some (.string ByteArray.empty), 1, 16) := by kernel_rfl
theorem Try.info22 : (Try.prog.info? 22).map (fun i => (i.zero, i.size, i.bytes)) = some (some (.slice Option.none 0 0), 1, 24) := by kernel_rfl

theorem nil22 (w : World) (a : Option Addr) (n c : Nat) : (binOp .eql 22 (.slice a n c) (.slice Option.none 0 0)).run Try.prog w = .ok (.bool a.isNone) w := Lib.run_eql_slice_nil w 22 3 a n c 0 0 Try.underlying22
theorem nil23 (w : World) (a : Option Addr) (n c : Nat) : (binOp .eql 23 (.slice a n c) (.slice Option.none 0 0)).run Try.prog w = .ok (.bool a.isNone) w := Lib.run_eql_slice_nil w 23 22 a n c 0 0 Try.underlying23
theorem nil28 (w : World) (a : Option Addr) (n c : Nat) : (binOp .eql 28 (.slice a n c) (.slice Option.none 0 0)).run Try.prog w = .ok (.bool a.isNone) w := Lib.run_eql_slice_nil w 28 4 a n c 0 0 Try.underlying28
theorem nil36 (w : World) (a : Option Addr) (n c : Nat) : (binOp .eql 36 (.slice a n c) (.slice Option.none 0 0)).run Try.prog w = .ok (.bool a.isNone) w := Lib.run_eql_slice_nil w 36 9 a n c 0 0 Try.underlying36

/-- What a clone leaves: nil of nil; else a new row at the heap's end. -/
def Cloned (w w' : World) (a : Option Addr) (n : Nat) (f : Nat → Value) (a' : Option Addr) (c' : Nat) : Prop :=
  Below w.heap.size w w' ∧ (a' = Option.none ↔ a = Option.none) ∧ SliceAt w' a' n c' f ∧ (∀ b off, a' = some ⟨b, off, Option.none⟩ → w.heap.size ≤ b)

set_option maxHeartbeats 400000 in
theorem cloneInts_some (ad : Addr) (n c : Nat) (x : Nat → Int) (w : World) (hn : n ≤ 1048576) (h : SliceAt w (some ad) n c (fun i => .int .i64 (x i))) :
    Calls Try.prog 12 #[.slice (some ad) n c] w fun e w' => e = .returned (.slice (some ⟨w.heap.size, 0, Option.none⟩) n n) ∧ Below w.heap.size w w' ∧ w'.rowIs w.heap.size 3 n (fun i => .int .i64 (x i)) := by
  have hmk := run_make_row' (P := Try.prog) 22 3 (.int .i64 0) 8 Try.underlying22 Try.info3 rfl .i64 .i64 n (by omega) (by omega)
  have hnl := nil22
  go_enter Try.func12, Try.ntmps12
  go_wp2
  go_loopw [4] (fun i wr => ∃ k : Nat, k ≤ n ∧ i = .int .i64 k ∧ Below w.heap.size w wr ∧ wr.rowIs w.heap.size 3 n (fun i => if i < k then .int .i64 (x i) else .int .i64 0)) (fun i _ => n - (intOf i).toNat)
  case atStart =>
    refine ⟨0, Nat.zero_le _, rfl, (Below.refl _ _).alloc (Nat.le_refl _) _, ?_⟩
    simpa using World.rowIs_made w (.int .i64 0) n 3
  case round =>
    obtain ⟨k, hk, rfl, hb, hrow⟩ := hrel
    by_cases hlt : k < n
    · obtain ⟨b, off, hb1, hcs⟩ := h.cells (by omega)
      cases hb1
      have hck := cell_below hb (hcs k hlt)
      have hd := hrow.cell hlt
      have hf := hrow.frozen k
      clear hcs
      go_wp2
      go_roundw
      case rel => exact ⟨k + 1, by omega, by go_num, hb.setCell (Nat.le_refl _) _, (hrow.set k _).congr fun i hi => fill_step i k (fun i => .int .i64 (x i)) _⟩
      case measure => simp [intOf]; omega
    · go_wp2
      go_ret
      exact ⟨rfl, hb, hrow.congr fun i hi => if_pos (by omega)⟩

theorem cloneInts_any (a : Option Addr) (n c : Nat) (x : Nat → Int) (w : World) (hn : n ≤ 1048576) (h : SliceAt w a n c (fun i => .int .i64 (x i))) :
    Calls Try.prog 12 #[.slice a n c] w fun e w' => ∃ a' c', e = .returned (.slice a' n c') ∧ Cloned w w' a n (fun i => .int .i64 (x i)) a' c' := by
  cases a with
  | some ad =>
    refine (cloneInts_some ad n c x w hn h).mono ?_
    rintro e w' ⟨rfl, hb, hrow⟩
    exact ⟨_, _, rfl, hb, by simp, SliceAt.of_row hrow, fun b off e => by cases e; exact Nat.le_refl _⟩
  | none =>
    have hc := h.nil rfl
    have hn0 : n = 0 := by have := h.cap; omega
    subst hn0
    have hnl := nil22
    go_enter Try.func12, Try.ntmps12
    go_wp2
    go_ret
    exact ⟨_, _, rfl, Below.refl _ _, Iff.rfl, SliceAt.of_nil _ _, fun b off e => by cases e⟩
set_option maxHeartbeats 400000 in
theorem cloneStrings_some (ad : Addr) (n c : Nat) (x : Nat → ByteArray) (w : World) (hn : n ≤ 1048576) (h : SliceAt w (some ad) n c (fun i => .string (x i))) :
    Calls Try.prog 29 #[.slice (some ad) n c] w fun e w' => e = .returned (.slice (some ⟨w.heap.size, 0, Option.none⟩) n n) ∧ Below w.heap.size w w' ∧ w'.rowIs w.heap.size 9 n (fun i => .string (x i)) := by
  have hmk := run_make_row' (P := Try.prog) 36 9 (.string ByteArray.empty) 16 Try.underlying36 Try.info9 rfl .i64 .i64 n (by omega) (by omega)
  have hnl := nil36
  go_enter Try.func29, Try.ntmps29
  go_wp2
  go_loopw [4] (fun i wr => ∃ k : Nat, k ≤ n ∧ i = .int .i64 k ∧ Below w.heap.size w wr ∧ wr.rowIs w.heap.size 9 n (fun i => if i < k then .string (x i) else .string ByteArray.empty)) (fun i _ => n - (intOf i).toNat)
  case atStart =>
    refine ⟨0, Nat.zero_le _, rfl, (Below.refl _ _).alloc (Nat.le_refl _) _, ?_⟩
    simpa using World.rowIs_made w (.string ByteArray.empty) n 9
  case round =>
    obtain ⟨k, hk, rfl, hb, hrow⟩ := hrel
    by_cases hlt : k < n
    · obtain ⟨b, off, hb1, hcs⟩ := h.cells (by omega)
      cases hb1
      have hck := cell_below hb (hcs k hlt)
      have hd := hrow.cell hlt
      have hf := hrow.frozen k
      clear hcs
      go_wp2
      go_roundw
      case rel => exact ⟨k + 1, by omega, by go_num, hb.setCell (Nat.le_refl _) _, (hrow.set k _).congr fun i hi => fill_step i k (fun i => .string (x i)) _⟩
      case measure => simp [intOf]; omega
    · go_wp2
      go_ret
      exact ⟨rfl, hb, hrow.congr fun i hi => if_pos (by omega)⟩

theorem cloneStrings_any (a : Option Addr) (n c : Nat) (x : Nat → ByteArray) (w : World) (hn : n ≤ 1048576) (h : SliceAt w a n c (fun i => .string (x i))) :
    Calls Try.prog 29 #[.slice a n c] w fun e w' => ∃ a' c', e = .returned (.slice a' n c') ∧ Cloned w w' a n (fun i => .string (x i)) a' c' := by
  cases a with
  | some ad =>
    refine (cloneStrings_some ad n c x w hn h).mono ?_
    rintro e w' ⟨rfl, hb, hrow⟩
    exact ⟨_, _, rfl, hb, by simp, SliceAt.of_row hrow, fun b off e => by cases e; exact Nat.le_refl _⟩
  | none =>
    have hc := h.nil rfl
    have hn0 : n = 0 := by have := h.cap; omega
    subst hn0
    have hnl := nil36
    go_enter Try.func29, Try.ntmps29
    go_wp2
    go_ret
    exact ⟨_, _, rfl, Below.refl _ _, Iff.rfl, SliceAt.of_nil _ _, fun b off e => by cases e⟩
set_option maxHeartbeats 400000 in
theorem cloneBools_some (ad : Addr) (n c : Nat) (x : Nat → Bool) (w : World) (hn : n ≤ 1048576) (h : SliceAt w (some ad) n c (fun i => .bool (x i))) :
    Calls Try.prog 30 #[.slice (some ad) n c] w fun e w' => e = .returned (.slice (some ⟨w.heap.size, 0, Option.none⟩) n n) ∧ Below w.heap.size w w' ∧ w'.rowIs w.heap.size 4 n (fun i => .bool (x i)) := by
  have hmk := run_make_row' (P := Try.prog) 28 4 (.bool false) 1 Try.underlying28 Try.info4 rfl .i64 .i64 n (by omega) (by omega)
  have hnl := nil28
  go_enter Try.func30, Try.ntmps30
  go_wp2
  go_loopw [4] (fun i wr => ∃ k : Nat, k ≤ n ∧ i = .int .i64 k ∧ Below w.heap.size w wr ∧ wr.rowIs w.heap.size 4 n (fun i => if i < k then .bool (x i) else .bool false)) (fun i _ => n - (intOf i).toNat)
  case atStart =>
    refine ⟨0, Nat.zero_le _, rfl, (Below.refl _ _).alloc (Nat.le_refl _) _, ?_⟩
    simpa using World.rowIs_made w (.bool false) n 4
  case round =>
    obtain ⟨k, hk, rfl, hb, hrow⟩ := hrel
    by_cases hlt : k < n
    · obtain ⟨b, off, hb1, hcs⟩ := h.cells (by omega)
      cases hb1
      have hck := cell_below hb (hcs k hlt)
      have hd := hrow.cell hlt
      have hf := hrow.frozen k
      clear hcs
      go_wp2
      go_roundw
      case rel => exact ⟨k + 1, by omega, by go_num, hb.setCell (Nat.le_refl _) _, (hrow.set k _).congr fun i hi => fill_step i k (fun i => .bool (x i)) _⟩
      case measure => simp [intOf]; omega
    · go_wp2
      go_ret
      exact ⟨rfl, hb, hrow.congr fun i hi => if_pos (by omega)⟩

theorem cloneBools_any (a : Option Addr) (n c : Nat) (x : Nat → Bool) (w : World) (hn : n ≤ 1048576) (h : SliceAt w a n c (fun i => .bool (x i))) :
    Calls Try.prog 30 #[.slice a n c] w fun e w' => ∃ a' c', e = .returned (.slice a' n c') ∧ Cloned w w' a n (fun i => .bool (x i)) a' c' := by
  cases a with
  | some ad =>
    refine (cloneBools_some ad n c x w hn h).mono ?_
    rintro e w' ⟨rfl, hb, hrow⟩
    exact ⟨_, _, rfl, hb, by simp, SliceAt.of_row hrow, fun b off e => by cases e; exact Nat.le_refl _⟩
  | none =>
    have hc := h.nil rfl
    have hn0 : n = 0 := by have := h.cap; omega
    subst hn0
    have hnl := nil28
    go_enter Try.func30, Try.ntmps30
    go_wp2
    go_ret
    exact ⟨_, _, rfl, Below.refl _ _, Iff.rfl, SliceAt.of_nil _ _, fun b off e => by cases e⟩

theorem rows_step (i k : Nat) (A' : Nat → Option Addr) (N C' : Nat → Nat) (a1 : Option Addr) (c1 : Nat) :
    (if i = k then Value.slice a1 (N k) c1 else if i < k then .slice (A' i) (N i) (C' i) else .slice Option.none 0 0) = if i < k + 1 then .slice (if i = k then a1 else A' i) (N i) (if i = k then c1 else C' i) else .slice Option.none 0 0 := by
  by_cases h : i = k
  · subst h; simp
  · simp only [if_neg h]
    by_cases h2 : i < k
    · rw [if_pos h2, if_pos (by omega)]
    · rw [if_neg h2, if_neg (by omega)]

set_option maxHeartbeats 400000 in
theorem cloneRows_some (ad : Addr) (n c : Nat) (A : Nat → Option Addr) (N C : Nat → Nat) (X : Nat → Nat → Int) (w : World) (hn : n ≤ 1048576) (h : SliceAt w (some ad) n c (fun i => .slice (A i) (N i) (C i)))
    (hr : ∀ i, i < n → N i ≤ 1048576 ∧ SliceAt w (A i) (N i) (C i) (fun j => .int .i64 (X i j))) :
    Calls Try.prog 13 #[.slice (some ad) n c] w fun e w' => e = .returned (.slice (some ⟨w.heap.size, 0, Option.none⟩) n n) ∧ Below w.heap.size w w' ∧ ∃ (A' : Nat → Option Addr) (C' : Nat → Nat), w'.rowIs w.heap.size 22 n (fun i => .slice (A' i) (N i) (C' i)) ∧
      ∀ i, i < n → (A' i = Option.none ↔ A i = Option.none) ∧ SliceAt w' (A' i) (N i) (C' i) (fun j => .int .i64 (X i j)) := by
  have hmk := run_make_row' (P := Try.prog) 23 22 (.slice Option.none 0 0) 24 Try.underlying23 Try.info22 rfl .i64 .i64 n (by omega) (by omega)
  have hnl := nil23
  go_enter Try.func13, Try.ntmps13
  go_wp2
  go_loopw [4] (fun i wr => ∃ k : Nat, k ≤ n ∧ i = .int .i64 k ∧ Below w.heap.size w wr ∧ w.heap.size < wr.heap.size ∧ ∃ (A' : Nat → Option Addr) (C' : Nat → Nat), wr.rowIs w.heap.size 22 n (fun i => if i < k then .slice (A' i) (N i) (C' i) else .slice Option.none 0 0) ∧
      ∀ i, i < k → (A' i = Option.none ↔ A i = Option.none) ∧ SliceAt wr (A' i) (N i) (C' i) (fun j => .int .i64 (X i j)) ∧ ∀ b off, A' i = some ⟨b, off, Option.none⟩ → w.heap.size < b) (fun i _ => n - (intOf i).toNat)
  case atStart =>
    refine ⟨0, Nat.zero_le _, rfl, (Below.refl _ _).alloc (Nat.le_refl _) _, by simp, fun _ => Option.none, fun _ => 0, ?_, fun i hi => absurd hi (Nat.not_lt_zero _)⟩
    simpa using World.rowIs_made w (.slice Option.none 0 0) n 22
  case round =>
    obtain ⟨k, hk, rfl, hb, hsz, A', C', hrow, hrows⟩ := hrel
    by_cases hlt : k < n
    · obtain ⟨b, off, hb1, hcs⟩ := h.cells (by omega)
      cases hb1
      have hck := cell_below hb (hcs k hlt)
      have hrk := (hr k hlt).2.below hb
      have hnk := (hr k hlt).1
      clear hcs
      go_wp2_with (go_at_call 12; refine (cloneInts_any _ _ _ (X k) _ hnk hrk).mono ?_; rintro e w1 ⟨a1, c1, rfl, hb1, hn1, hs1, hlo⟩; have hrow1 := hrow.of_block (hb1.block _ hsz); have hd := hrow1.cell hlt; have hf := hrow1.frozen k)
      go_roundw
      case rel =>
        have hb2 : Below w.heap.size w w1 := hb.trans (hb1.mono (Nat.le_of_lt hsz))
        refine ⟨k + 1, by omega, by go_num, hb2.setCell (Nat.le_refl _) _, by simpa using Nat.lt_of_lt_of_le hsz hb1.size, fun i => if i = k then a1 else A' i, fun i => if i = k then c1 else C' i, ?_, ?_⟩
        · exact (hrow1.set k _).congr fun i hi => rows_step i k A' N C' a1 c1
        · intro i hi
          by_cases e : i = k
          · subst e
            simp only [if_true]
            exact ⟨hn1, hs1.setOther (fun b off e => by have := hlo b off e; show b ≠ w.heap.size; omega) _, fun b off e => Nat.lt_of_lt_of_le hsz (hlo b off e)⟩
          · simp only [if_neg e]
            obtain ⟨g1, g2, g3⟩ := hrows i (by omega)
            exact ⟨g1, (g2.below hb1).setOther (fun b off e => by have := g3 b off e; show b ≠ w.heap.size; omega) _, g3⟩
      case measure => simp [intOf]; omega
    · go_wp2
      go_ret
      exact ⟨rfl, hb, A', C', hrow.congr fun i hi => if_pos (by omega), fun i hi => ⟨(hrows i (by omega)).1, (hrows i (by omega)).2.1⟩⟩

/-- A slice of rows of integers. -/
def RowsAt (w : World) (a : Option Addr) (n c : Nat) (A : Nat → Option Addr) (N C : Nat → Nat) (X : Nat → Nat → Int) : Prop :=
  SliceAt w a n c (fun i => .slice (A i) (N i) (C i)) ∧ ∀ i, i < n → SliceAt w (A i) (N i) (C i) (fun j => .int .i64 (X i j))

theorem RowsAt.below {w w' : World} {a : Option Addr} {n c : Nat} {A : Nat → Option Addr} {N C : Nat → Nat} {X : Nat → Nat → Int} (h : RowsAt w a n c A N C X) (hb : Below w.heap.size w w') : RowsAt w' a n c A N C X :=
  ⟨h.1.below hb, fun i hi => (h.2 i hi).below hb⟩

theorem RowsAt.kept {w w' : World} {row : Option Nat} {a : Option Addr} {n c : Nat} {A : Nat → Option Addr} {N C : Nat → Nat} {X : Nat → Nat → Int} (h : RowsAt w a n c A N C X) (hg : w.grownBy w' row) (hm : OnlyMap w row) : RowsAt w' a n c A N C X :=
  ⟨h.1.kept hg hm, fun i hi => (h.2 i hi).kept hg hm⟩

theorem below_step {w w1 w2 : World} (h1 : Below w.heap.size w w1) (h2 : Below w1.heap.size w1 w2) : Below w.heap.size w w2 := h1.trans (h2.mono h1.size)

theorem cloneRows_any (a : Option Addr) (n c : Nat) (A : Nat → Option Addr) (N C : Nat → Nat) (X : Nat → Nat → Int) (w : World) (hn : n ≤ 1048576) (hN : ∀ i, i < n → N i ≤ 1048576) (h : RowsAt w a n c A N C X) :
    Calls Try.prog 13 #[.slice a n c] w fun e w' => ∃ (a' : Option Addr) (c' : Nat) (A' : Nat → Option Addr) (C' : Nat → Nat), e = .returned (.slice a' n c') ∧ Below w.heap.size w w' ∧ RowsAt w' a' n c' A' N C' X ∧ (a' = Option.none ↔ a = Option.none) ∧ ∀ i, i < n → (A' i = Option.none ↔ A i = Option.none) := by
  cases a with
  | some ad =>
    refine (cloneRows_some ad n c A N C X w hn h.1 (fun i hi => ⟨hN i hi, h.2 i hi⟩)).mono ?_
    rintro e w' ⟨rfl, hb, A', C', hrow, hr⟩
    exact ⟨_, _, A', C', rfl, hb, ⟨SliceAt.of_row hrow, fun i hi => (hr i hi).2⟩, by simp, fun i hi => (hr i hi).1⟩
  | none =>
    have hc := h.1.nil rfl
    have hn0 : n = 0 := by have := h.1.cap; omega
    subst hn0
    have hnl := nil23
    go_enter Try.func13, Try.ntmps13
    go_wp2
    go_ret
    exact ⟨_, _, A, C, rfl, Below.refl _ _, ⟨SliceAt.of_nil _ _, fun i hi => absurd hi (Nat.not_lt_zero _)⟩, by simp, fun i hi => absurd hi (Nat.not_lt_zero _)⟩
end Go.Proofs.Qxb6602460a
