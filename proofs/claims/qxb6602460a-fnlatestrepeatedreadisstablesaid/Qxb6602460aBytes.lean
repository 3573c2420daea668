import Derived.Test.Qxb6602460aClone
namespace Go.Proofs.Qxb6602460a
open Go.RowKit Go.Maps Go.Own

/-- Some bool comes back; the world is as it was. -/
def SomeBool (w : World) (e : Ending) (w' : World) : Prop := ∃ b, e = .returned (.bool b) ∧ w = w'

set_option maxHeartbeats 1000000 in
theorem zzBytes27 (tn an : Bool) (ka la ia va : Option Addr) (nk ck nl cl ni ci nv cv : Nat) (S : Nat → ByteArray) (A : Nat → Option Addr) (N C : Nat → Nat) (it : ByteArray) (w : World)
    (hk : SliceAt w ka nk ck (fun i => .string (S i))) (hl : SliceAt w la nl cl (fun i => .slice (A i) (N i) (C i))) :
    Calls Try.prog 27 #[.bool tn, .slice ka nk ck, .slice la nl cl, .bool an, .slice ia ni ci, .slice va nv cv, .string it] w (SomeBool w) := by
  go_enter Try.func27, Try.ntmps27
  go_wp2
  all_goals try (go_ret; exact ⟨_, rfl, rfl⟩)
  go_loop [15, 16] (fun t i => ∃ (k : Nat) (q : Int), k ≤ nk ∧ i = .int .i64 k ∧ t = .int .i64 q) (fun _ i => nk - (intOf i).toNat)
  case atStart => exact ⟨0, _, Nat.zero_le _, rfl, rfl⟩
  case round =>
    obtain ⟨k, q, hkk, rfl, rfl⟩ := hrel
    by_cases hlt : k < nk
    · obtain ⟨b, off, hb1, hcs⟩ := hk.cells (by omega)
      cases hb1
      have hck := hcs k hlt
      clear hcs
      go_wp2
      all_goals try (go_ret; exact ⟨_, rfl, rfl⟩)
      go_round
      case rel => exact ⟨k + 1, _, by omega, by go_num, rfl⟩
      case measure => simp [intOf]; omega
    · go_wp2
      all_goals try (go_ret; exact ⟨_, rfl, rfl⟩)
      go_loop [15, 17] (fun t i => ∃ (k : Nat) (q : Int), k ≤ nl ∧ i = .int .i64 k ∧ t = .int .i64 q) (fun _ i => nl - (intOf i).toNat)
      case atStart => exact ⟨0, _, Nat.zero_le _, rfl, rfl⟩
      case round =>
        obtain ⟨k, q, hkk, rfl, rfl⟩ := hrel
        by_cases hlt : k < nl
        · obtain ⟨b, off, hb1, hcs⟩ := hl.cells (by omega)
          cases hb1
          have hck := hcs k hlt
          clear hcs
          go_wp2
          all_goals try (go_ret; exact ⟨_, rfl, rfl⟩)
          go_round
          case rel => exact ⟨k + 1, _, by omega, by go_num, rfl⟩
          case measure => simp [intOf]; omega
        · go_wp2
          all_goals (go_ret; exact ⟨_, rfl, rfl⟩)
set_option maxHeartbeats 1000000 in
theorem zzBytes36 (tn an : Bool) (ka la ia va : Option Addr) (nk ck nl cl ni ci nv cv : Nat) (S : Nat → ByteArray) (A : Nat → Option Addr) (N C : Nat → Nat) (it : ByteArray) (w : World)
    (hk : SliceAt w ka nk ck (fun i => .string (S i))) (hl : SliceAt w la nl cl (fun i => .slice (A i) (N i) (C i))) :
    Calls Try.prog 36 #[.bool tn, .slice ka nk ck, .slice la nl cl, .bool an, .slice ia ni ci, .slice va nv cv, .string it] w (SomeBool w) := by
  go_enter Try.func36, Try.ntmps36
  go_wp2
  all_goals try (go_ret; exact ⟨_, rfl, rfl⟩)
  go_loop [15, 16] (fun t i => ∃ (k : Nat) (q : Int), k ≤ nk ∧ i = .int .i64 k ∧ t = .int .i64 q) (fun _ i => nk - (intOf i).toNat)
  case atStart => exact ⟨0, _, Nat.zero_le _, rfl, rfl⟩
  case round =>
    obtain ⟨k, q, hkk, rfl, rfl⟩ := hrel
    by_cases hlt : k < nk
    · obtain ⟨b, off, hb1, hcs⟩ := hk.cells (by omega)
      cases hb1
      have hck := hcs k hlt
      clear hcs
      go_wp2
      all_goals try (go_ret; exact ⟨_, rfl, rfl⟩)
      go_round
      case rel => exact ⟨k + 1, _, by omega, by go_num, rfl⟩
      case measure => simp [intOf]; omega
    · go_wp2
      all_goals try (go_ret; exact ⟨_, rfl, rfl⟩)
      go_loop [15, 17] (fun t i => ∃ (k : Nat) (q : Int), k ≤ nl ∧ i = .int .i64 k ∧ t = .int .i64 q) (fun _ i => nl - (intOf i).toNat)
      case atStart => exact ⟨0, _, Nat.zero_le _, rfl, rfl⟩
      case round =>
        obtain ⟨k, q, hkk, rfl, rfl⟩ := hrel
        by_cases hlt : k < nl
        · obtain ⟨b, off, hb1, hcs⟩ := hl.cells (by omega)
          cases hb1
          have hck := hcs k hlt
          clear hcs
          go_wp2
          all_goals try (go_ret; exact ⟨_, rfl, rfl⟩)
          go_round
          case rel => exact ⟨k + 1, _, by omega, by go_num, rfl⟩
          case measure => simp [intOf]; omega
        · go_wp2
          all_goals (go_ret; exact ⟨_, rfl, rfl⟩)

/-- .. and, where it is true, no row is longer than 131072. -/
def RowsBounded (nl : Nat) (N : Nat → Nat) (w : World) (e : Ending) (w' : World) : Prop := ∃ b : Bool, e = .returned (.bool b) ∧ w = w' ∧ (b = true → ∀ i, i < nl → N i ≤ 131072)

set_option maxHeartbeats 1000000 in
theorem writersBytesOK28 (ka la ia va : Option Addr) (nk ck nl cl ni ci nv cv : Nat) (S : Nat → ByteArray) (A : Nat → Option Addr) (N C : Nat → Nat) (it : ByteArray) (w : World)
    (hk : SliceAt w ka nk ck (fun i => .string (S i))) (hl : SliceAt w la nl cl (fun i => .slice (A i) (N i) (C i)))
    (hnk : nk ≤ 65536) (hnl : nl ≤ 65536) :
    Calls Try.prog 28 #[.slice ka nk ck, .slice la nl cl, .slice ia ni ci, .slice va nv cv, .string it] w (RowsBounded nl N w) := by
  go_enter Try.func28, Try.ntmps28
  go_wp2
  all_goals try (go_ret; exact ⟨_, rfl, rfl, fun h => by cases h⟩)
  go_loop [11, 12] (fun t i => ∃ (k : Nat) (q : Int), k ≤ nk ∧ i = .int .i64 k ∧ t = .int .i64 q) (fun _ i => nk - (intOf i).toNat)
  case atStart => exact ⟨0, _, Nat.zero_le _, rfl, rfl⟩
  case round =>
    obtain ⟨k, q, hkk, rfl, rfl⟩ := hrel
    by_cases hlt : k < nk
    · obtain ⟨b, off, hb1, hcs⟩ := hk.cells (by omega)
      cases hb1
      have hck := hcs k hlt
      clear hcs
      go_wp2
      all_goals try (go_ret; exact ⟨_, rfl, rfl, fun h => by cases h⟩)
      go_round
      case rel => exact ⟨k + 1, _, by omega, by go_num, rfl⟩
      case measure => simp [intOf]; omega
    · go_wp2
      all_goals try (go_ret; exact ⟨_, rfl, rfl, fun h => by cases h⟩)
      go_loop [11, 13] (fun t i => ∃ (k : Nat) (q : Int), k ≤ nl ∧ i = .int .i64 k ∧ t = .int .i64 q ∧ ∀ i, i < k → N i ≤ 131072) (fun _ i => nl - (intOf i).toNat)
      case atStart => exact ⟨0, _, Nat.zero_le _, rfl, rfl, fun i hi => absurd hi (Nat.not_lt_zero _)⟩
      case round =>
        obtain ⟨k, q, hkk, rfl, rfl, hNs⟩ := hrel
        have HN := hide hNs
        clear hNs
        by_cases hlt : k < nl
        · obtain ⟨b, off, hb1, hcs⟩ := hl.cells (by omega)
          cases hb1
          have hck := hcs k hlt
          clear hcs
          go_wp2
          all_goals try (go_ret; exact ⟨_, rfl, rfl, fun h => by cases h⟩)
          go_round
          case rel => exact ⟨k + 1, _, by omega, by go_num, rfl, fun i hi => by
              by_cases e : i = k
              · subst e; omega
              · exact unhide HN i (by omega)⟩
          case measure => simp [intOf]; omega
        · go_wp2
          all_goals (go_ret; exact ⟨_, rfl, rfl, fun _ i hi => unhide HN i (by omega)⟩)
end Go.Proofs.Qxb6602460a
