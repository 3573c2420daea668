import Derived.Test.Qxb6002590aAppend
namespace Go.Proofs.Qxb6002590a
open Go.RowKit Go.Own

/-- A new slice that reads as the list comes back; the old memory is as it was. -/
def NewB (xs : List Int) (w : World) (e : Ending) (w' : World) : Prop := ∃ v, e = .returned v ∧ OwnB w' w.heap.size v xs ∧ Below w.heap.size w w'

set_option maxHeartbeats 400000 in
theorem clone36 (ad : Addr) (c : Nat) (xs : List Int) (w : World) (h : BytesAt w (some ad) c xs) (hl : xs.length ≤ 4194304) :
    Calls Try.prog 36 #[.slice (some ad) xs.length c] w (NewB xs w) := by
  have hnl := nil22
  have h0 : OwnB (w.alloc (.cells #[] 5)) w.heap.size (.slice (some ⟨w.heap.size, 0, Option.none⟩) 0 0) [] := World.ownsRow_made w #[] 0 (Nat.le_refl _) (by simp [maxLen]) rfl
  obtain ⟨v, w', hr, h1, h2, -, -⟩ := append_bytes 22 h0 (by simp) (h.below ((Below.refl _ _).alloc (Nat.le_refl _) (.cells #[] 5))) (by simp; omega)
  go_enter Try.func36, Try.ntmps36
  go_wp2_with (at_builtin; refine Lib.wpList_append_run _ rfl _ _ _ _ rfl _ _ rfl rfl _ _ hr ?_)
  go_ret
  refine ⟨v, rfl, by simpa using h1, ?_⟩
  exact ((Below.refl _ _).alloc (Nat.le_refl _) _).trans (grown_below h2 (by simp) (fun k e => by cases e; exact Nat.le_refl _))

theorem grow37_zero (w : World) : Calls Try.prog 37 #[.slice Option.none 0 0, .int .i64 0] w (NewB [] w) := by
  go_enter Try.func37, Try.ntmps37
  go_wp2
  go_ret
  exact ⟨_, rfl, OwnB.nil _ _, Below.refl _ _⟩

set_option maxHeartbeats 400000 in
theorem grow37 (n : Nat) (hn : 0 < n) (hl : n ≤ 4194304) (w : World) : Calls Try.prog 37 #[.slice Option.none 0 0, .int .i64 n] w (NewB [] w) := by
  obtain ⟨i0, hi, hz0, hz1, hz2⟩ := info_parts Try.info5
  have hr := Lib.run_append_nil_zeros (P := Try.prog) w 22 3 22 5 i0 (.int .u8 0) .i64 .i64 Try.underlying22 Try.underlying3 hi hz0 n hn (by omega) (by omega) (by rw [hz2]; omega)
  have q1 : decide ((0 : Int) < (n : Int)) = true := decide_eq_true (by omega)
  have q2 : decide ((n : Int) < 0) = false := decide_eq_false (by omega)
  have hge := grownCap_ge w n 0 5
  have hmx := grownCap_le_maxLen w n 0 5 (by simp only [maxLen]; omega)
  generalize grownCap w n 0 5 = cap at hr hge hmx
  go_enter Try.func37, Try.ntmps37
  go_wp2_with (at_builtin; refine Lib.wpList_append_run _ rfl _ _ _ _ rfl _ _ rfl rfl _ _ hr ?_)
  go_ret
  refine ⟨_, rfl, World.ownsRow_made (w := w.drew) (base := w.heap.size) _ cap (Nat.le_refl _) hmx ?_, ?_⟩
  · simp [Builtin.zeroCells]
    omega
  · exact below_drewN' ((Below.refl _ _).alloc (Nat.le_refl _) _) 1

theorem grow37_any (n : Nat) (hl : n ≤ 4194304) (w : World) : Calls Try.prog 37 #[.slice Option.none 0 0, .int .i64 n] w (NewB [] w) := by
  by_cases hn : 0 < n
  · exact grow37 n hn hl w
  · have : n = 0 := by omega
    subst this
    exact grow37_zero w

theorem newB_drew {w : World} {xs : List Int} {j : Nat} {e : Ending} {w' : World} (h : NewB xs (w.drewN j) e w') : NewB xs w e w' := by
  obtain ⟨v, h1, h2, h3⟩ := h
  exact ⟨v, h1, h2, h3.os, h3.tape, h3.output, h3.size, h3.block⟩

/-- The first k of two lists, joined. -/
def upTo (xs ys : List Int) : Nat → List Int
  | 0 => []
  | 1 => xs
  | _ => xs ++ ys

set_option maxHeartbeats 1000000 in
theorem concat33 (B : Nat) (a1 a2 : Option Addr) (c1 c2 : Nat) (xs ys : List Int) (w : World) (hB1 : w.cell? ⟨B, 0, Option.none⟩ = some (.slice a1 xs.length c1)) (hB2 : w.cell? ⟨B, 1, Option.none⟩ = some (.slice a2 ys.length c2))
    (h1 : BytesAt w a1 c1 xs) (h2 : BytesAt w a2 c2 ys) (l1 : xs.length ≤ 2097152) (l2 : ys.length ≤ 2097152) :
    Calls Try.prog 33 #[.slice (some ⟨B, 0, Option.none⟩) 2 2] w (NewB (xs ++ ys) w) := by
  have hg : Calls Try.prog 37 #[.slice Option.none 0 0, .int .i64 ((xs.length : Int) + (ys.length : Int))] w (NewB [] w) := by
    have := grow37_any (xs.length + ys.length) (by omega) w
    rwa [Int.natCast_add] at this
  go_enter Try.func33, Try.ntmps33
  go_wp2_with fail
  go_loop [3, 11] (fun t i => ∃ k : Nat, k ≤ 2 ∧ i = .int .i64 k ∧ t = .int .i64 ((upTo xs ys k).length : Nat)) (fun _ i => 2 - (intOf i).toNat)
  case atStart => exact ⟨0, by omega, rfl, rfl⟩
  case round =>
    obtain ⟨k, hk, rfl, rfl⟩ := hrel
    have hkc : k = 0 ∨ k = 1 ∨ k = 2 := by omega
    rcases hkc with rfl | rfl | rfl
    · simp only [upTo]
      go_wp2_with fail
      go_round
      case rel => exact ⟨1, by omega, by go_num, by simp⟩
      case measure => simp [intOf]
    · simp only [upTo]
      go_wp2_with fail
      go_round
      case rel => exact ⟨2, by omega, by go_num, by simp⟩
      case measure => simp [intOf]
    · simp only [upTo]
      go_wp2_with fail
      refine hg.mono ?_
      rintro e w1 ⟨v, rfl, ho, hb⟩
      go_wp2_with fail
      go_loopw [6, 27] (fun v i wr => ∃ k : Nat, k ≤ 2 ∧ i = .int .i64 k ∧ OwnB wr w.heap.size v (upTo xs ys k) ∧ Below w.heap.size w wr) (fun _ i _ => 2 - (intOf i).toNat)
      case atStart => exact ⟨0, by omega, rfl, ho, hb⟩
      case round =>
        obtain ⟨k, hk, rfl, ho, hb⟩ := hrel
        have hkc : k = 0 ∨ k = 1 ∨ k = 2 := by omega
        rcases hkc with rfl | rfl | rfl
        · have hc1 := cell_below hb hB1
          obtain ⟨v', w', hr, g1, g2, -, -⟩ := append_bytes 22 ho hb.size (h1.below hb) (by simp [upTo]; omega)
          go_wp2_with (at_builtin; refine Lib.wpList_append_run _ rfl _ _ _ _ rfl _ _ rfl rfl _ _ hr ?_)
          go_roundw
          case rel => exact ⟨1, by omega, by go_num, g1, hb.trans (grown_below g2 hb.size (fun q e => (World.ownsRow.lt ho q e).1))⟩
          case measure => simp [intOf]
        · have hc2 := cell_below hb hB2
          obtain ⟨v', w', hr, g1, g2, -, -⟩ := append_bytes 22 ho hb.size (h2.below hb) (by simp [upTo]; omega)
          go_wp2_with (at_builtin; refine Lib.wpList_append_run _ rfl _ _ _ _ rfl _ _ rfl rfl _ _ hr ?_)
          go_roundw
          case rel => exact ⟨2, by omega, by go_num, g1, hb.trans (grown_below g2 hb.size (fun q e => (World.ownsRow.lt ho q e).1))⟩
          case measure => simp [intOf]
        · go_wp2_with fail
          go_ret
          exact ⟨_, rfl, ho, hb⟩
end Go.Proofs.Qxb6002590a
