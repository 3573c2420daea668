import Derived.Test.Qxb6602460aClone
import Derived.Deep.QuietTactic
import Derived.BigQuiet
namespace Go.Proofs.Qxb6602460a
open Go.RowKit Go.Maps Go.Own

/-- A bool comes back, only draws have been made; where it is true, p holds. -/
def Tells (p : Prop) (w : World) (e : Ending) (w' : World) : Prop := ∃ b, e = .returned (.bool b) ∧ (b = true → p) ∧ ∃ j, w' = w.drewN j

theorem no_more {p : Prop} (h : false = true) : p := by cases h

set_option maxHeartbeats 1000000 in
theorem zzBytes18 (na oa : Option Addr) (nn nc n c : Nat) (A : Nat → Option Addr) (N C : Nat → Nat) (w : World) (h : SliceAt w oa n c (fun i => .slice (A i) (N i) (C i))) :
    Calls Try.prog 18 #[.slice na nn nc, .slice oa n c] w (Tells True w) := by
  go_enter Try.func18, Try.ntmps18
  go_wp2
  all_goals try (go_ret; exact ⟨_, rfl, fun _ => trivial, 0, rfl⟩)
  go_loop [5, 6] (fun t i => ∃ (k : Nat) (q : Int), k ≤ n ∧ i = .int .i64 k ∧ t = .int .i64 q) (fun _ i => n - (intOf i).toNat)
  case atStart => exact ⟨0, _, Nat.zero_le _, rfl, rfl⟩
  case round =>
    obtain ⟨k, q, hkk, rfl, rfl⟩ := hrel
    by_cases hlt : k < n
    · obtain ⟨b, off, hb1, hcs⟩ := h.cells (by omega)
      cases hb1
      have hck := hcs k hlt
      clear hcs
      go_wp2
      all_goals try (go_ret; exact ⟨_, rfl, fun _ => trivial, 0, rfl⟩)
      go_round
      case rel => exact ⟨k + 1, _, by omega, by go_num, rfl⟩
      case measure => simp [intOf]; omega
    · go_wp2
      all_goals (go_ret; exact ⟨_, rfl, fun _ => trivial, 0, rfl⟩)

set_option maxHeartbeats 1000000 in
theorem bytes10 (na oa : Option Addr) (nn nc n c : Nat) (A : Nat → Option Addr) (N C : Nat → Nat) (w : World) (h : SliceAt w oa n c (fun i => .slice (A i) (N i) (C i))) (hn : n ≤ 65536) (hnn : nn ≤ 65536) :
    Calls Try.prog 10 #[.slice na nn nc, .slice oa n c] w (Tells (∀ i, i < n → N i ≤ 131072) w) := by
  by_cases g0 : 8 * nn + 24 * n ≤ 1048576
  rotate_left
  · have t0 : decide ((1048576 : Int) < 8 * (nn : Int) + 24 * (n : Int)) = true := decide_eq_true (by omega)
    go_enter Try.func10, Try.ntmps10
    go_wp2
    go_ret
    exact ⟨_, rfl, no_more, 0, rfl⟩
  have t0 : decide ((1048576 : Int) < 8 * (nn : Int) + 24 * (n : Int)) = false := decide_eq_false (by omega)
  go_enter Try.func10, Try.ntmps10
  go_wp2
  go_loop [5, 6] (fun t i => ∃ (k : Nat) (q : Int), k ≤ n ∧ i = .int .i64 k ∧ t = .int .i64 q ∧ 0 ≤ q ∧ q ≤ 1048576 ∧ ∀ i, i < k → N i ≤ 131072) (fun _ i => n - (intOf i).toNat)
  case atStart => exact ⟨0, _, Nat.zero_le _, rfl, rfl, by omega, by omega, fun i hi => absurd hi (Nat.not_lt_zero _)⟩
  case round =>
    obtain ⟨k, q, hkk, rfl, rfl, q0, q1, hall⟩ := hrel
    have HA := hide hall
    clear hall
    by_cases hlt : k < n
    · obtain ⟨b, off, hb1, hcs⟩ := h.cells (by omega)
      cases hb1
      have hck := hcs k hlt
      clear hcs
      by_cases g1 : N k ≤ 131072
      · have t1 : decide ((131072 : Int) < (N k : Int)) = false := decide_eq_false (by omega)
        by_cases g2 : q + 8 * (N k : Int) ≤ 1048576
        · have t2 : decide ((1048576 : Int) < q + 8 * (N k : Int)) = false := decide_eq_false (by omega)
          go_wp2
          go_round
          case rel => exact ⟨k + 1, _, by omega, by go_num, rfl, by omega, by omega, fun i hi => (by
              by_cases e : i = k
              · subst e; exact g1
              · exact unhide HA i (by omega))⟩
          case measure => simp [intOf]; omega
        · have t2 : decide ((1048576 : Int) < q + 8 * (N k : Int)) = true := decide_eq_true (by omega)
          go_wp2
          go_ret
          exact ⟨_, rfl, no_more, 0, rfl⟩
      · have t1 : decide ((131072 : Int) < (N k : Int)) = true := decide_eq_true (by omega)
        go_wp2
        go_ret
        exact ⟨_, rfl, no_more, 0, rfl⟩
    · have e : k = n := by omega
      subst e
      go_wp2
      go_ret
      exact ⟨_, rfl, fun _ => unhide HA, 0, rfl⟩

set_option maxHeartbeats 1000000 in
theorem asc19 (na : Option Addr) (n c : Nat) (x : Nat → Int) (w : World) (h : SliceAt w na n c (fun i => .int .i64 (x i))) (hn : n ≤ 65536) : Calls Try.prog 19 #[.slice na n c] w (Tells True w) := by
  go_enter Try.func19, Try.ntmps19
  go_wp2
  go_loopw [3] (fun i wr => ∃ (k j : Nat), i = .int .i64 ((k : Int) + 1) ∧ k ≤ n ∧ wr = w.drewN j) (fun i _ => n + 1 - (intOf i).toNat)
  case atStart => exact ⟨0, 0, rfl, Nat.zero_le _, rfl⟩
  case round =>
    obtain ⟨k, j, rfl, hk, rfl⟩ := hrel
    by_cases hlt : k + 1 < n
    · obtain ⟨b, off, hb1, hcs⟩ := h.cells (by omega)
      cases hb1
      have h1 := hcs k (by omega)
      have h2 := hcs (k + 1) hlt
      have li : (k : Int) + 1 < (n : Int) := by omega
      have li2 : (k : Int) + 1 - 1 = (k : Int) := by omega
      have li3 : (k : Int) < (n : Int) := by omega
      clear hcs
      generalize x k = u at h1
      generalize x (k + 1) = v at h2
      by_cases hc : v ≤ u
      · have t1 : decide (v ≤ u) = true := decide_eq_true hc
        go_wp2
        go_quiet (fail)
        go_wp2
        go_ret
        exact ⟨_, rfl, fun _ => trivial, _, World.drewN_drewN _ _ _⟩
      · have t1 : decide (v ≤ u) = false := decide_eq_false hc
        go_wp2
        go_quiet (fail)
        go_wp2
        go_roundw
        case rel => exact ⟨k + 1, _, by go_num, by omega, by first | rfl | exact World.drewN_drewN _ _ _⟩
        case measure => simp [intOf]; omega
    · go_wp2
      go_ret
      exact ⟨_, rfl, fun _ => trivial, j, rfl⟩

set_option maxHeartbeats 2000000 in
theorem edges11 (oa : Option Addr) (n c : Nat) (A : Nat → Option Addr) (N C : Nat → Nat) (X : Nat → Nat → Int) (w : World) (h : RowsAt w oa n c A N C X) (hn : n ≤ 65536) (hN : ∀ i, i < n → N i ≤ 131072) :
    Calls Try.prog 11 #[.slice oa n c] w (Tells (∀ v, v < n → ∀ y, y < N v → 0 ≤ X v y ∧ X v y < (n : Int)) w) := by
  go_enter Try.func11, Try.ntmps11
  go_wp2
  go_loopw [4] (fun i wr => ∃ (v j : Nat), v ≤ n ∧ i = .int .i64 v ∧ (∀ u, u < v → ∀ y, y < N u → 0 ≤ X u y ∧ X u y < (n : Int)) ∧ wr = w.drewN j) (fun i _ => n - (intOf i).toNat)
  case atStart => exact ⟨0, 0, Nat.zero_le _, rfl, fun u hu => absurd hu (Nat.not_lt_zero _), rfl⟩
  case round =>
    obtain ⟨v, j, hv, rfl, hall, rfl⟩ := hrel
    have HA := hide hall
    clear hall
    by_cases hlt : v < n
    · have li : (v : Int) < (n : Int) := by omega
      obtain ⟨b, off, rfl, hcs⟩ := h.1.cells (by omega)
      have hck := hcs v hlt
      have hrow := h.2 v hlt
      have hNv := hN v hlt
      clear hcs
      generalize A v = aq at hck hrow
      go_wp2
      go_loopw [6] (fun i wr => ∃ (t j : Nat), i = .int .i64 (t : Int) ∧ t ≤ N v ∧ (∀ y, y < t → 0 ≤ X v y ∧ X v y < (n : Int)) ∧ wr = w.drewN j) (fun i _ => N v + 1 - (intOf i).toNat)
      case atStart => exact ⟨0, j, rfl, Nat.zero_le _, fun y hy => absurd hy (by omega), rfl⟩
      case round =>
        obtain ⟨t, j, rfl, ht, hin, rfl⟩ := hrel
        have HI := hide hin
        clear hin
        by_cases hlt' : t < N v
        · obtain ⟨b2, off2, rfl, hcs⟩ := hrow.cells (by omega)
          have hcx := hcs t hlt'
          have li' : (t : Int) < (N v : Int) := by omega
          clear hcs
          generalize hx : X v t = x at hcx
          have HX := hide hx
          clear hx
          by_cases g0 : x < 0
          · have t1 : decide (x < 0) = true := decide_eq_true g0
            go_wp2
            go_ret
            exact ⟨_, rfl, no_more, j, rfl⟩
          · have t1 : decide (x < 0) = false := decide_eq_false g0
            by_cases g1 : (n : Int) ≤ x
            · have t2 : decide ((n : Int) ≤ x) = true := decide_eq_true g1
              go_wp2
              go_ret
              exact ⟨_, rfl, no_more, j, rfl⟩
            · have t2 : decide ((n : Int) ≤ x) = false := decide_eq_false g1
              go_wp2
              go_roundw
              case rel => exact ⟨t + 1, j, by go_num, hlt', fun y hy => (by
                  by_cases e : y = t
                  · subst e; rw [unhide HX]; omega
                  · exact unhide HI y (by omega)), rfl⟩
              case measure => simp [intOf]; omega
        · have li' : (N v : Int) ≤ (t : Int) := by omega
          go_wp2
          go_roundw
          case rel => exact ⟨v + 1, j, hlt, by go_num, fun u hu => (by
              by_cases e : u = v
              · subst e; exact fun y hy => unhide HI y (by omega)
              · exact unhide HA u (by omega)), rfl⟩
          case measure => simp [intOf]; omega
    · have e : v = n := by omega
      subst e
      go_wp2
      go_ret
      exact ⟨_, rfl, fun _ => unhide HA, j, rfl⟩

set_option maxHeartbeats 2000000 in
theorem self21 (oa : Option Addr) (n c : Nat) (A : Nat → Option Addr) (N C : Nat → Nat) (X : Nat → Nat → Int) (w : World) (h : RowsAt w oa n c A N C X) (hn : n ≤ 65536) (hN : ∀ i, i < n → N i ≤ 131072) :
    Calls Try.prog 21 #[.slice oa n c] w (Tells (∀ v, v < n → ∀ y, y < N v → X v y ≠ (v : Int)) w) := by
  go_enter Try.func21, Try.ntmps21
  go_wp2
  go_loopw [3] (fun i wr => ∃ (v j : Nat), v ≤ n ∧ i = .int .i64 v ∧ (∀ u, u < v → ∀ y, y < N u → X u y ≠ (u : Int)) ∧ wr = w.drewN j) (fun i _ => n - (intOf i).toNat)
  case atStart => exact ⟨0, 0, Nat.zero_le _, rfl, fun u hu => absurd hu (Nat.not_lt_zero _), rfl⟩
  case round =>
    obtain ⟨v, j, hv, rfl, hall, rfl⟩ := hrel
    have HA := hide hall
    clear hall
    by_cases hlt : v < n
    · have li : (v : Int) < (n : Int) := by omega
      obtain ⟨b, off, rfl, hcs⟩ := h.1.cells (by omega)
      have hck := hcs v hlt
      have hrow := h.2 v hlt
      have hNv := hN v hlt
      clear hcs
      generalize A v = aq at hck hrow
      go_wp2
      go_loopw [5] (fun i wr => ∃ (t j : Nat), i = .int .i64 (t : Int) ∧ t ≤ N v ∧ (∀ y, y < t → X v y ≠ (v : Int)) ∧ wr = w.drewN j) (fun i _ => N v + 1 - (intOf i).toNat)
      case atStart => exact ⟨0, j, rfl, Nat.zero_le _, fun y hy => absurd hy (by omega), rfl⟩
      case round =>
        obtain ⟨t, j, rfl, ht, hin, rfl⟩ := hrel
        have HI := hide hin
        clear hin
        by_cases hlt' : t < N v
        · obtain ⟨b2, off2, rfl, hcs⟩ := hrow.cells (by omega)
          have hcx := hcs t hlt'
          have li' : (t : Int) < (N v : Int) := by omega
          clear hcs
          generalize hx : X v t = x at hcx
          have HX := hide hx
          clear hx
          by_cases g0 : x = (v : Int)
          · have t1 : (x == (v : Int)) = true := by simp [g0]
            clear g0
            go_wp2
            go_ret
            exact ⟨_, rfl, no_more, j, rfl⟩
          · have t1 : (x == (v : Int)) = false := by simp [g0]
            have G0 := hide g0
            clear g0
            go_wp2
            go_roundw
            case rel => exact ⟨t + 1, j, by go_num, hlt', fun y hy => (by
                by_cases e : y = t
                · subst e; rw [unhide HX]; exact unhide G0
                · exact unhide HI y (by omega)), rfl⟩
            case measure => simp [intOf]; omega
        · have li' : (N v : Int) ≤ (t : Int) := by omega
          go_wp2
          go_roundw
          case rel => exact ⟨v + 1, j, hlt, by go_num, fun u hu => (by
              by_cases e : u = v
              · subst e; exact fun y hy => unhide HI y (by omega)
              · exact unhide HA u (by omega)), rfl⟩
          case measure => simp [intOf]; omega
    · have e : v = n := by omega
      subst e
      go_wp2
      go_ret
      exact ⟨_, rfl, fun _ => unhide HA, j, rfl⟩

set_option maxHeartbeats 2000000 in
theorem rows20 (oa : Option Addr) (n c : Nat) (A : Nat → Option Addr) (N C : Nat → Nat) (X : Nat → Nat → Int) (w : World) (h : RowsAt w oa n c A N C X) (hn : n ≤ 65536) (hN : ∀ i, i < n → N i ≤ 131072) :
    Calls Try.prog 20 #[.slice oa n c] w (Tells (∀ v, v < n → ∀ y, y + 1 < N v → X v y ≤ X v (y + 1)) w) := by
  go_enter Try.func20, Try.ntmps20
  go_wp2
  go_loopw [3] (fun i wr => ∃ (v j : Nat), v ≤ n ∧ i = .int .i64 v ∧ (∀ u, u < v → ∀ y, y + 1 < N u → X u y ≤ X u (y + 1)) ∧ wr = w.drewN j) (fun i _ => n - (intOf i).toNat)
  case atStart => exact ⟨0, 0, Nat.zero_le _, rfl, fun u hu => absurd hu (Nat.not_lt_zero _), rfl⟩
  case round =>
    obtain ⟨v, j, hv, rfl, hall, rfl⟩ := hrel
    have HA := hide hall
    clear hall
    by_cases hlt : v < n
    · have li : (v : Int) < (n : Int) := by omega
      obtain ⟨b, off, rfl, hcs⟩ := h.1.cells (by omega)
      have hck := hcs v hlt
      have hrow := h.2 v hlt
      have hNv := hN v hlt
      clear hcs
      generalize A v = aq at hck hrow
      go_wp2
      go_loopw [5] (fun i wr => ∃ (t j : Nat), i = .int .i64 ((t : Int) + 1) ∧ t ≤ N v ∧ (∀ y, y + 1 < t + 1 → y + 1 < N v → X v y ≤ X v (y + 1)) ∧ wr = w.drewN j) (fun i _ => N v + 1 - (intOf i).toNat)
      case atStart => exact ⟨0, j, rfl, Nat.zero_le _, fun y hy => absurd hy (by omega), rfl⟩
      case round =>
        obtain ⟨t, j, rfl, ht, hin, rfl⟩ := hrel
        have HI := hide hin
        clear hin
        by_cases hlt' : t + 1 < N v
        · obtain ⟨b2, off2, rfl, hcs⟩ := hrow.cells (by omega)
          have hcx := hcs t (by omega)
          have hcy := hcs (t + 1) hlt'
          have li' : (t : Int) + 1 < (N v : Int) := by omega
          have li2 : (t : Int) + 1 - 1 = (t : Int) := by omega
          have li3 : (t : Int) < (N v : Int) := by omega
          clear hcs
          generalize hx : X v t = x at hcx
          generalize hy : X v (t + 1) = y at hcy
          have HX := hide hx
          have HY := hide hy
          clear hx hy
          by_cases g0 : y < x
          · have t1 : decide (y < x) = true := decide_eq_true g0
            go_wp2
            go_quiet (fail)
            go_wp2
            go_ret
            exact ⟨_, rfl, no_more, _, World.drewN_drewN _ _ _⟩
          · have t1 : decide (y < x) = false := decide_eq_false g0
            go_wp2
            go_quiet (fail)
            go_wp2
            go_roundw
            case rel => exact ⟨t + 1, _, by go_num, by omega, fun z hz hz2 => (by
                by_cases e : z = t
                · subst e; rw [unhide HX, unhide HY]; omega
                · exact unhide HI z (by omega) hz2), by first | rfl | exact World.drewN_drewN _ _ _⟩
            case measure => simp [intOf]; omega
        · have li' : (N v : Int) ≤ (t : Int) + 1 := by omega
          go_wp2
          go_roundw
          case rel => exact ⟨v + 1, j, hlt, by go_num, fun u hu => (by
              by_cases e : u = v
              · subst e; exact fun y hy => unhide HI y (by omega) hy
              · exact unhide HA u (by omega)), rfl⟩
          case measure => simp [intOf]; omega
    · have e : v = n := by omega
      subst e
      go_wp2
      go_ret
      exact ⟨_, rfl, fun _ => unhide HA, j, rfl⟩
end Go.Proofs.Qxb6602460a
