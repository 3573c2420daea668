import Derived.Test.Qxb6602460aOc
import Derived.Test.Qxb6602460aShelf
import Derived.Lib.OwnBridge
namespace Go.Proofs.Qxb6602460a
open Go.RowKit Go.Maps Go.Own

/-- The first that is marked. -/
def IdxPost (n : Nat) (f : Nat → Bool) (w : World) (e : Ending) (w' : World) : Prop :=
  w' = w ∧ ((∃ s, s < n ∧ f s = true ∧ (∀ i, i < s → f i = false) ∧ e = .returned (.int .i64 (s : Nat))) ∨ ((∀ i, i < n → f i = false) ∧ e = .returned (.int .i64 (-1))))

set_option maxHeartbeats 1000000 in
theorem idx42 (b n : Nat) (f : Nat → Bool) (w : World) (hn : n ≤ 1048576) (h : w.rowIs b 4 n (fun i => .bool (f i))) :
    Calls Try.prog 42 #[.slice (some ⟨b, 0, Option.none⟩) n n, .bool true] w (IdxPost n f w) := by
  go_enter Try.func42, Try.ntmps42
  go_wp2
  go_loopw [8] (fun i wr => ∃ k : Nat, k ≤ n ∧ i = .int .i64 k ∧ wr = w ∧ ∀ i, i < k → f i = false) (fun i _ => n - (intOf i).toNat)
  case atStart => exact ⟨0, Nat.zero_le _, rfl, rfl, fun i hi => absurd hi (Nat.not_lt_zero _)⟩
  case round =>
    obtain ⟨k, hk, rfl, rfl, hall⟩ := hrel
    have HA := hide hall
    clear hall
    by_cases hlt : k < n
    · have hc := h.cell hlt
      have lk : (k : Int) < (n : Int) := by omega
      have HH := hide h
      clear h
      cases hf : f k
      · rw [hf] at hc
        have HF := hide hf
        clear hf
        go_wp2
        go_roundw
        case rel => exact ⟨k + 1, by omega, by go_num, by first | rfl | trivial, fun i hi => (by
          by_cases e : i = k
          · subst e; exact unhide HF
          · exact unhide HA i (by omega))⟩
        case measure => simp [intOf]; omega
      · rw [hf] at hc
        have HF := hide hf
        clear hf
        go_wp2
        go_ret
        exact ⟨rfl, .inl ⟨k, hlt, unhide HF, unhide HA, rfl⟩⟩
    · obtain rfl : k = n := by omega
      go_wp2
      go_ret
      exact ⟨rfl, .inr ⟨unhide HA, rfl⟩⟩

/-! ### A slice of whole numbers that the call itself has made -/
def OwnZ (w : World) (base : Nat) (v : Value) (zs : List Int) : Prop := w.ownsRow base 3 1 v zs.length (zs.map (Value.int .i64))

theorem OwnZ.nil (w : World) (base : Nat) : OwnZ w base (.slice Option.none 0 0) [] := World.ownsRow_nil w base 3 1

theorem append_z {w : World} {base : Nat} {v : Value} {xs : List Int} (x : Int) (b : Nat) (ty : TypeId) (h : OwnZ w base v xs) (hb : base ≤ w.heap.size) (hs : w.cell? ⟨b, 0, Option.none⟩ = some (.int .i64 x)) (hl : xs.length ≤ 1048576) :
    ∃ v' w', (Builtin.append_ #[22, 22] ty #[v, .slice (some ⟨b, 0, Option.none⟩) 1 1]).run Try.prog w = .ok v' w' ∧ OwnZ w' base v' (xs ++ [x]) ∧ w.grownBy w' v.ownBlock := by
  obtain ⟨i0, hi, hz0, hz1, hz2⟩ := info_parts Try.info3
  obtain ⟨v', w', hr, h2, h3, -, -⟩ := run_append_own_at (P := Try.prog) w base 22 ty 3 i0 (.int .i64 0) 1 8 Try.underlying22 hi hz0 hz1 hz2 rfl (by decide) v xs.length (xs.map (Value.int .i64)) h ⟨b, 0, Option.none⟩ 1 1 [.int .i64 x] rfl
    (fun j u hu => by
      cases j with
      | zero => cases hu; exact hs
      | succ j => simp at hu)
    (fun u hu => by
      cases hu with
      | head => rfl
      | tail _ h => cases h) (by simp only [maxLen]; omega) (by omega) hb
  refine ⟨v', w', hr, ?_, h3⟩
  unfold OwnZ
  rw [List.length_append, List.map_append]
  exact h2

theorem OwnZ.form {w : World} {base : Nat} {v : Value} {xs : List Int} (h : OwnZ w base v xs) : ∃ a c, v = .slice a xs.length c ∧ (a = Option.none → xs = []) ∧ (∀ p, a = some p → ∃ b, p = ⟨b, 0, Option.none⟩ ∧ base ≤ b) ∧ SliceAt w a xs.length c (fun i => .int .i64 (xs.getD i 0)) := by
  have hc := fun g hg => World.ownsRow.cells (g := g) h hg
  rcases h.2 with ⟨rfl, h0⟩ | ⟨g, cap, cur, rfl, hb, hg, hle, hm, hs, ht⟩
  · exact ⟨Option.none, 0, by rw [h0], fun _ => List.length_eq_zero_iff.1 h0, fun p e => (by cases e), ⟨by omega, fun _ => rfl, fun hn => absurd hn (by omega)⟩⟩
  · refine ⟨_, cap, rfl, fun e => (by cases e), fun p e => ⟨g, by cases e; rfl, hb⟩, ⟨hle, fun e => (by cases e), fun hn => ⟨g, 0, rfl, fun i hi => ?_⟩⟩⟩
    have := hc g rfl i (.int .i64 (xs.getD i 0)) (by simp [List.getD_eq_getElem?_getD, hi])
    rw [add_none] at this
    exact this

/-- One more number, laid in a block of its own first: all that the walk wants of it. -/
theorem append_z' {w : World} {base : Nat} {v : Value} {xs : List Int} (x : Int) (ty : TypeId) (h : OwnZ w base v xs) (hb : base ≤ w.heap.size) (hl : xs.length ≤ 1048576) :
    ∃ b c w', (Builtin.append_ #[22, 22] ty #[v, .slice (some ⟨w.heap.size, 0, Option.none⟩) 1 1]).run Try.prog (w.alloc (.cells #[.int .i64 x] 3)) = .ok (.slice (some ⟨b, 0, Option.none⟩) (xs.length + 1) c) w' ∧ OwnZ w' base (.slice (some ⟨b, 0, Option.none⟩) (xs.length + 1) c) (xs ++ [x]) ∧ Below base w w' := by
  have hb1 : Below w.heap.size w (w.alloc (.cells #[.int .i64 x] 3)) := (Below.refl _ _).alloc (Nat.le_refl _) _
  obtain ⟨v', w', hr, g1, g2⟩ := append_z x w.heap.size ty (World.ownsRow.alloc h (.cells #[.int .i64 x] 3)) (Nat.le_trans hb hb1.size) (cell_new _ _ _ 0 rfl) hl
  have hown := fun k e => (World.ownsRow.lt h k e).1
  have hb2 : Below base w w' := (hb1.mono hb).trans (grown_below g2 (Nat.le_trans hb hb1.size) hown)
  obtain ⟨a, c, rfl, h0, h1, -⟩ := g1.form
  rw [show (xs ++ [x]).length = xs.length + 1 from by simp] at hr g1
  cases a with
  | none => exact absurd (h0 rfl) (by simp)
  | some p =>
    obtain ⟨b, rfl, -⟩ := h1 p rfl
    exact ⟨b, c, w', hr, g1, hb2⟩

theorem rev44 {w : World} {base g cap : Nat} {zs : List Int} (h : OwnZ w base (.slice (some ⟨g, 0, Option.none⟩) zs.length cap) zs) (hl : zs.length ≤ 1048576) :
    Calls Try.prog 44 #[.slice (some ⟨g, 0, Option.none⟩) zs.length cap] w fun e w' => e = .returned (.tuple #[]) ∧ OwnZ w' base (.slice (some ⟨g, 0, Option.none⟩) zs.length cap) zs.reverse ∧ Below base w w' := by
  obtain ⟨g', cap', e, hg, _, _, _, _, hH⟩ := Lib.holds_of_ownsRow h (by intro e; cases e)
  cases e
  refine (Try.slices_Reverse_int g 0 cap zs w hH (by omega)).mono ?_
  rintro e w' ⟨rfl, q, rfl⟩
  refine ⟨rfl, ?_, Lib.below_putRow (Below.refl _ _) hg⟩
  have := Lib.ownsRow_putRow (q := q) (k := zs.length) (ys := zs.reverse) h (by simp) (Nat.le_refl _)
  unfold OwnZ
  rw [List.length_reverse]
  rw [List.take_of_length_le (by simp)] at this
  exact this
end Go.Proofs.Qxb6602460a
