import Derived.Test.Qxb6602460aClone
namespace Go.Proofs.Qxb6602460a
open Go.RowKit Go.Maps Go.Own Go.WideMaps

theorem law9 : Keyed Try.prog 9 := string_keyed Try.underlying9
theorem law3 : Keyed Try.prog 3 := int_keyed Try.underlying3
theorem zero22 (w : World) : (zeroValue 22).run Try.prog w = .ok (.slice Option.none 0 0) w := by kernel_rfl
theorem zero4 (w : World) : (zeroValue 4).run Try.prog w = .ok (.bool false) w := by kernel_rfl
theorem zero3 (w : World) : (zeroValue 3).run Try.prog w = .ok (.int .i64 0) w := by kernel_rfl

/-- A string as a key. -/
def skey (s : ByteArray) : Lit := .string s.data.toList
theorem skey_ok {s : ByteArray} (h : s.size ≤ maxLen) : keyOf Try.prog 9 (.string s) = some (skey s) := keyOf_string_mk Try.underlying9 h

/-- An int as a key. -/
def ikey (x : Int) : Lit := .int .i64 x
theorem ikey_ok {x : Int} (h : (Lit.int .i64 x).wf = true) : keyOf Try.prog 3 (.int .i64 x) = some (ikey x) := keyOf_int_mk Try.underlying3 h

/-- What buildTable leaves. -/
def TabPost (k : TypeId) (K : Nat → Lit) (V : Nat → Value) (isNil : Bool) (n : Nat) (w : World) (e : Ending) (w' : World) : Prop :=
  ∃ v sz, e = .returned v ∧ Below w.heap.size w w' ∧ Tab Try.prog k w' v n (if isNil then fun _ => Option.none else tabOf K V n) sz ∧ (v = .map Option.none ↔ isNil = true) ∧ ∀ b, v = .map (some b) → w.heap.size ≤ b

set_option maxHeartbeats 400000 in
theorem buildTable_yes (ka la : Option Addr) (nk ck nl cl : Nat) (S : Nat → ByteArray) (A : Nat → Option Addr) (N C : Nat → Nat) (w : World)
    (hk : SliceAt w ka nk ck (fun i => .string (S i))) (hl : SliceAt w la nl cl (fun i => .slice (A i) (N i) (C i))) (hnk : nk ≤ 65536) (hkl : nk = nl) (hS : ∀ i, i < nk → (S i).size ≤ maxLen) :
    Calls Try.prog 31 #[.bool false, .slice ka nk ck, .slice la nl cl] w (TabPost 9 (fun i => skey (S i)) (fun i => .slice (A i) (N i) (C i)) false nk w) := by
  subst hkl
  have hmm := @run_makeMap Try.prog
  go_enter Try.func31, Try.ntmps31
  go_wp2
  go_loopw [8] (fun i wr => ∃ k : Nat, k ≤ nk ∧ i = .int .i64 k ∧ Below w.heap.size w wr ∧ w.heap.size < wr.heap.size ∧ ∃ sz, Tab Try.prog 9 wr (.map (some w.heap.size)) k (tabOf (fun i => skey (S i)) (fun i => .slice (A i) (N i) (C i)) k) sz) (fun i _ => nk - (intOf i).toNat)
  case atStart => exact ⟨0, Nat.zero_le _, rfl, (Below.refl _ _).alloc (Nat.le_refl _) _, by simp, 0, Tab.made w Try.prog 9⟩
  case round =>
    obtain ⟨k, hk2, rfl, hb, hsz, sz, htab⟩ := hrel
    by_cases hlt : k < nk
    · obtain ⟨b, off, hb1, hcs⟩ := hk.cells (by omega)
      cases hb1
      obtain ⟨b2, off2, hb2, hcs2⟩ := hl.cells (by omega)
      cases hb2
      have hck := cell_below hb (hcs k hlt)
      have hck2 := cell_below hb (hcs2 k hlt)
      have hlt2 : (k : Int) < (nk : Int) := by omega
      obtain ⟨w1, hrun, htab1, hg1, hs1⟩ := htab.drew.store (val := .slice (A k) (N k) (C k)) law9 Try.underlying41 (by unfold maxLen; omega) (skey_ok (hS k hlt))
      clear hcs hcs2 hS
      go_wp2
      go_region
      go_wp2
      go_roundw
      case rel => exact ⟨k + 1, by omega, by go_num, hb.drew.grown hg1 (Nat.le_of_lt hsz) (fun j hj => by cases hj; exact Nat.le_refl _), Nat.lt_of_lt_of_le hsz (Nat.le_of_eq hs1.symm), _, htab1⟩
      case measure => simp [intOf]; omega
    · have hkn : k = nk := by omega
      subst hkn
      go_wp2
      go_ret
      exact ⟨_, sz, rfl, hb, htab, by simp, fun b e => by cases e; exact Nat.le_refl _⟩

theorem buildTable_any (tn : Bool) (ka la : Option Addr) (nk ck nl cl : Nat) (S : Nat → ByteArray) (A : Nat → Option Addr) (N C : Nat → Nat) (w : World)
    (hk : SliceAt w ka nk ck (fun i => .string (S i))) (hl : SliceAt w la nl cl (fun i => .slice (A i) (N i) (C i))) (hnk : nk ≤ 65536) (hkl : nk = nl) (hS : ∀ i, i < nk → (S i).size ≤ maxLen) :
    Calls Try.prog 31 #[.bool tn, .slice ka nk ck, .slice la nl cl] w (TabPost 9 (fun i => skey (S i)) (fun i => .slice (A i) (N i) (C i)) tn nk w) := by
  cases tn with
  | false => exact buildTable_yes ka la nk ck nl cl S A N C w hk hl hnk hkl hS
  | true =>
    go_enter Try.func31, Try.ntmps31
    go_wp2
    go_ret
    exact ⟨_, 0, rfl, Below.refl _ _, Tab.nil, by simp, fun b e => by cases e⟩


set_option maxHeartbeats 400000 in
theorem buildAborted_yes (ka la : Option Addr) (nk ck nl cl : Nat) (X : Nat → Int) (B : Nat → Bool) (w : World)
    (hk : SliceAt w ka nk ck (fun i => .int .i64 (X i))) (hl : SliceAt w la nl cl (fun i => .bool (B i))) (hnk : nk ≤ 65536) (hkl : nk = nl) (hX : ∀ i, i < nk → (Lit.int .i64 (X i)).wf = true) :
    Calls Try.prog 32 #[.bool false, .slice ka nk ck, .slice la nl cl] w (TabPost 3 (fun i => ikey (X i)) (fun i => .bool (B i)) false nk w) := by
  subst hkl
  have hmm := @run_makeMap Try.prog
  go_enter Try.func32, Try.ntmps32
  go_wp2
  go_loopw [8] (fun i wr => ∃ k : Nat, k ≤ nk ∧ i = .int .i64 k ∧ Below w.heap.size w wr ∧ w.heap.size < wr.heap.size ∧ ∃ sz, Tab Try.prog 3 wr (.map (some w.heap.size)) k (tabOf (fun i => ikey (X i)) (fun i => .bool (B i)) k) sz) (fun i _ => nk - (intOf i).toNat)
  case atStart => exact ⟨0, Nat.zero_le _, rfl, (Below.refl _ _).alloc (Nat.le_refl _) _, by simp, 0, Tab.made w Try.prog 3⟩
  case round =>
    obtain ⟨k, hk2, rfl, hb, hsz, sz, htab⟩ := hrel
    by_cases hlt : k < nk
    · obtain ⟨b, off, hb1, hcs⟩ := hk.cells (by omega)
      cases hb1
      obtain ⟨b2, off2, hb2, hcs2⟩ := hl.cells (by omega)
      cases hb2
      have hck := cell_below hb (hcs k hlt)
      have hck2 := cell_below hb (hcs2 k hlt)
      have hlt2 : (k : Int) < (nk : Int) := by omega
      obtain ⟨w1, hrun, htab1, hg1, hs1⟩ := htab.drew.store (val := .bool (B k)) law3 Try.underlying43 (by unfold maxLen; omega) (ikey_ok (hX k hlt))
      clear hcs hcs2 hX
      go_wp2
      go_region
      go_wp2
      go_roundw
      case rel => exact ⟨k + 1, by omega, by go_num, hb.drew.grown hg1 (Nat.le_of_lt hsz) (fun j hj => by cases hj; exact Nat.le_refl _), Nat.lt_of_lt_of_le hsz (Nat.le_of_eq hs1.symm), _, htab1⟩
      case measure => simp [intOf]; omega
    · have hkn : k = nk := by omega
      subst hkn
      go_wp2
      go_ret
      exact ⟨_, sz, rfl, hb, htab, by simp, fun b e => by cases e; exact Nat.le_refl _⟩

theorem buildAborted_any (tn : Bool) (ka la : Option Addr) (nk ck nl cl : Nat) (X : Nat → Int) (B : Nat → Bool) (w : World)
    (hk : SliceAt w ka nk ck (fun i => .int .i64 (X i))) (hl : SliceAt w la nl cl (fun i => .bool (B i))) (hnk : nk ≤ 65536) (hkl : nk = nl) (hX : ∀ i, i < nk → (Lit.int .i64 (X i)).wf = true) :
    Calls Try.prog 32 #[.bool tn, .slice ka nk ck, .slice la nl cl] w (TabPost 3 (fun i => ikey (X i)) (fun i => .bool (B i)) tn nk w) := by
  cases tn with
  | false => exact buildAborted_yes ka la nk ck nl cl X B w hk hl hnk hkl hX
  | true =>
    go_enter Try.func32, Try.ntmps32
    go_wp2
    go_ret
    exact ⟨_, 0, rfl, Below.refl _ _, Tab.nil, by simp, fun b e => by cases e⟩

theorem map_only {P : Program} {k : TypeId} {w : World} {b n : Nat} {F : Lit → Option Value} {sz : Nat} (h : Tab P k w (.map (some b)) n F sz) : OnlyMap w (some b) := by
  intro m hm
  cases hm
  rcases h with ⟨hv, _⟩ | ⟨b', D, hv, ho, _⟩
  · cases hv
  · cases hv
    obtain ⟨es, cl, h1, _⟩ := ho
    exact ⟨es, cl, h1⟩

theorem tab_lt {P : Program} {k : TypeId} {w : World} {b n : Nat} {F : Lit → Option Value} {sz : Nat} (h : Tab P k w (.map (some b)) n F sz) : b < w.heap.size := by
  rcases h with ⟨hv, _⟩ | ⟨b', D, hv, ho, _⟩
  · cases hv
  · cases hv
    exact ho.lt

theorem tab_map {P : Program} {k : TypeId} {w : World} {v : Value} {n : Nat} {F : Lit → Option Value} {sz : Nat} (h : Tab P k w v n F sz) : ∃ bv, v = .map bv := by
  rcases h with ⟨hv, _⟩ | ⟨b', D, hv, ho, _⟩
  · exact ⟨_, hv⟩
  · exact ⟨_, hv⟩

theorem tab_below {P : Program} {k : TypeId} {w w' : World} {v : Value} {n : Nat} {F : Lit → Option Value} {sz : Nat} (h : Tab P k w v n F sz) (hb : Below w.heap.size w w') : Tab P k w' v n F sz :=
  h.kept (row := Option.none) ⟨hb.os, hb.tape, hb.output, hb.size, fun i hi _ => hb.block i hi⟩ (fun _ _ => by simp)
end Go.Proofs.Qxb6602460a
