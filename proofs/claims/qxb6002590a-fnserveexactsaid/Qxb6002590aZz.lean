import Derived.Test.Qxb6002590aClone
namespace Go.Proofs.Qxb6002590a
open Go.RowKit Go.Own

/-- Some bool comes back; the world is as it was. -/
def SomeBool (w : World) (e : Ending) (w' : World) : Prop := ∃ b, e = .returned (.bool b) ∧ w = w'

set_option maxHeartbeats 2000000 in
theorem zzBytes23 (a0 a1 a2 a3 a4 a5 a6 : Option Addr) (n0 n1 n2 n3 n4 n5 n6 c0 c1 c2 c3 c4 c5 c6 : Nat) (A0 A1 A2 : Nat → Option Addr) (N0 N1 N2 C0 C1 C2 : Nat → Nat) (w : World)
    (h0 : SliceAt w a0 n0 c0 (fun i => .slice (A0 i) (N0 i) (C0 i))) (h1 : SliceAt w a1 n1 c1 (fun i => .slice (A1 i) (N1 i) (C1 i))) (h2 : SliceAt w a2 n2 c2 (fun i => .slice (A2 i) (N2 i) (C2 i))) :
    Calls Try.prog 23 #[.slice a0 n0 c0, .slice a1 n1 c1, .slice a2 n2 c2, .slice a3 n3 c3, .slice a4 n4 c4, .slice a5 n5 c5, .slice a6 n6 c6] w (SomeBool w) := by
  go_enter Try.func23, Try.ntmps23
  go_wp2
  all_goals try (go_ret; exact ⟨_, rfl, rfl⟩)
  go_loop [15, 16] (fun t i => ∃ (k : Nat) (q : Int), k ≤ n0 ∧ i = .int .i64 k ∧ t = .int .i64 q) (fun _ i => n0 - (intOf i).toNat)
  case atStart => exact ⟨0, _, Nat.zero_le _, rfl, rfl⟩
  case round =>
    obtain ⟨k, q, hkk, rfl, rfl⟩ := hrel
    by_cases hlt : k < n0
    · obtain ⟨b, off, hb1, hcs⟩ := h0.cells (by omega)
      cases hb1
      have hck := hcs k hlt
      clear hcs
      go_wp2
      all_goals try (go_ret; exact ⟨_, rfl, rfl⟩)
      go_round
      case rel => exact ⟨k + 1, _, by omega, by go_num, rfl⟩
      case measure => simp [intOf]; omega
    · go_wp2
      all_goals try (go_ret; exact ⟨_, rfl, rfl⟩)
      go_loop [15, 17] (fun t i => ∃ (k : Nat) (q : Int), k ≤ n1 ∧ i = .int .i64 k ∧ t = .int .i64 q) (fun _ i => n1 - (intOf i).toNat)
      case atStart => exact ⟨0, _, Nat.zero_le _, rfl, rfl⟩
      case round =>
        obtain ⟨k, q, hkk, rfl, rfl⟩ := hrel
        by_cases hlt : k < n1
        · obtain ⟨b, off, hb1, hcs⟩ := h1.cells (by omega)
          cases hb1
          have hck := hcs k hlt
          clear hcs
          go_wp2
          all_goals try (go_ret; exact ⟨_, rfl, rfl⟩)
          go_round
          case rel => exact ⟨k + 1, _, by omega, by go_num, rfl⟩
          case measure => simp [intOf]; omega
        · go_wp2
          all_goals try (go_ret; exact ⟨_, rfl, rfl⟩)
          go_loop [15, 18] (fun t i => ∃ (k : Nat) (q : Int), k ≤ n2 ∧ i = .int .i64 k ∧ t = .int .i64 q) (fun _ i => n2 - (intOf i).toNat)
          case atStart => exact ⟨0, _, Nat.zero_le _, rfl, rfl⟩
          case round =>
            obtain ⟨k, q, hkk, rfl, rfl⟩ := hrel
            by_cases hlt : k < n2
            · obtain ⟨b, off, hb1, hcs⟩ := h2.cells (by omega)
              cases hb1
              have hck := hcs k hlt
              clear hcs
              go_wp2
              all_goals try (go_ret; exact ⟨_, rfl, rfl⟩)
              go_round
              case rel => exact ⟨k + 1, _, by omega, by go_num, rfl⟩
              case measure => simp [intOf]; omega
            · go_wp2
              all_goals (go_ret; exact ⟨_, rfl, rfl⟩)

set_option maxHeartbeats 2000000 in
theorem zzBytes16 (a0 a1 a2 a3 a4 a5 a6 : Option Addr) (n0 n1 n2 n3 n4 n5 n6 c0 c1 c2 c3 c4 c5 c6 : Nat) (A0 A1 : Nat → Option Addr) (N0 N1 C0 C1 : Nat → Nat) (w : World)
    (h0 : SliceAt w a0 n0 c0 (fun i => .slice (A0 i) (N0 i) (C0 i))) (h1 : SliceAt w a1 n1 c1 (fun i => .slice (A1 i) (N1 i) (C1 i))) :
    Calls Try.prog 16 #[.slice a0 n0 c0, .slice a1 n1 c1, .slice a2 n2 c2, .slice a3 n3 c3, .slice a4 n4 c4, .slice a5 n5 c5, .slice a6 n6 c6] w (SomeBool w) := by
  go_enter Try.func16, Try.ntmps16
  go_wp2
  all_goals try (go_ret; exact ⟨_, rfl, rfl⟩)
  go_loop [15, 16] (fun t i => ∃ (k : Nat) (q : Int), k ≤ n0 ∧ i = .int .i64 k ∧ t = .int .i64 q) (fun _ i => n0 - (intOf i).toNat)
  case atStart => exact ⟨0, _, Nat.zero_le _, rfl, rfl⟩
  case round =>
    obtain ⟨k, q, hkk, rfl, rfl⟩ := hrel
    by_cases hlt : k < n0
    · obtain ⟨b, off, hb1, hcs⟩ := h0.cells (by omega)
      cases hb1
      have hck := hcs k hlt
      clear hcs
      go_wp2
      all_goals try (go_ret; exact ⟨_, rfl, rfl⟩)
      go_round
      case rel => exact ⟨k + 1, _, by omega, by go_num, rfl⟩
      case measure => simp [intOf]; omega
    · go_wp2
      all_goals try (go_ret; exact ⟨_, rfl, rfl⟩)
      go_loop [15, 17] (fun t i => ∃ (k : Nat) (q : Int), k ≤ n1 ∧ i = .int .i64 k ∧ t = .int .i64 q) (fun _ i => n1 - (intOf i).toNat)
      case atStart => exact ⟨0, _, Nat.zero_le _, rfl, rfl⟩
      case round =>
        obtain ⟨k, q, hkk, rfl, rfl⟩ := hrel
        by_cases hlt : k < n1
        · obtain ⟨b, off, hb1, hcs⟩ := h1.cells (by omega)
          cases hb1
          have hck := hcs k hlt
          clear hcs
          go_wp2
          all_goals try (go_ret; exact ⟨_, rfl, rfl⟩)
          go_round
          case rel => exact ⟨k + 1, _, by omega, by go_num, rfl⟩
          case measure => simp [intOf]; omega
        · go_wp2
          all_goals (go_ret; exact ⟨_, rfl, rfl⟩)
end Go.Proofs.Qxb6002590a
