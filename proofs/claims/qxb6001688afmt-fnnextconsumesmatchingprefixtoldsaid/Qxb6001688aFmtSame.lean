import Derived.Test.Qxb6001688aFmtNext
namespace Go.Proofs.Qxb6001688aFmt
open Go.RowKit Go.Own

/-- True comes back; nothing that was there has turned. -/
def TrueBelow (w : World) (e : Ending) (w' : World) : Prop := e = .returned (.bool true) ∧ Below w.heap.size w w'

set_option maxHeartbeats 1000000 in
theorem isZero30 (w : World) : Calls Tryf.prog 30 #[.agg #[.int .i64 0, .int .i64 0, .bool false, .slice Option.none 0 0]] w (TrueBelow w) := by
  go_enter Tryf.func30, Tryf.ntmps30
  go_wp2
  go_ret
  exact ⟨rfl, (Below.refl _ _).alloc (Nat.le_refl _) _⟩

set_option maxHeartbeats 1000000 in
theorem sameField31 (f : Fld) (w : World) (h : BytesAt w f) : Calls Tryf.prog 31 #[.agg #[.int .i64 f.cls, .int .i64 f.tag, .bool f.comp, .slice f.ba f.bn f.bc], .agg #[.int .i64 f.cls, .int .i64 f.tag, .bool f.comp, .slice f.ba f.bn f.bc]] w (TrueBelow w) := by
  obtain ⟨cls, tag, comp, ba, bn, bc⟩ := f
  obtain ⟨hbn, q, hq⟩ := h
  dsimp only at hbn hq ⊢
  have hb2 : Below w.heap.size w ((w.alloc (.cells #[.int .i64 cls, .int .i64 tag, .bool comp, .slice ba bn bc] 57)).alloc (.cells #[.int .i64 cls, .int .i64 tag, .bool comp, .slice ba bn bc] 57)) := ((Below.refl _ _).alloc (Nat.le_refl _) _).alloc (by simp) _
  replace hq := hq.below hb2
  go_enter Tryf.func31, Tryf.ntmps31
  go_wp2
  go_loopw [5] (fun i wr => ∃ k : Nat, k ≤ bn ∧ i = .int .i64 k ∧ ∃ j, wr = ((w.alloc (.cells #[.int .i64 cls, .int .i64 tag, .bool comp, .slice ba bn bc] 57)).alloc (.cells #[.int .i64 cls, .int .i64 tag, .bool comp, .slice ba bn bc] 57)).drewN j) (fun i _ => bn - (intOf i).toNat)
  case atStart => exact ⟨0, Nat.zero_le _, rfl, 0, rfl⟩
  case round =>
    obtain ⟨k, hk, rfl, j, rfl⟩ := hrel
    by_cases hlt : k < bn
    · obtain ⟨yb, yo, hyb, hcs⟩ := hq.cells (by omega)
      subst hyb
      have hck := hcs k hlt
      have hlti : (k : Int) < (bn : Int) := by omega
      clear hcs hq
      go_wp2
      go_quiet (fail)
      go_wp2
      go_roundw
      case rel => exact ⟨k + 1, by omega, by go_num, _, rfl⟩
      case measure => simp [intOf]; omega
    · go_wp2
      go_ret
      exact ⟨rfl, below_drewN' hb2 j⟩

set_option maxHeartbeats 1000000 in
theorem sameList29 (a a' : Option Addr) (n c c' : Nat) (F : Nat → Fld) (w : World) (h : FldsAt w a n F) (h' : FldsAt w a' n F) (hB : ∀ i, i < n → BytesAt w (F i)) (hn : n ≤ 1024) :
    Calls Tryf.prog 29 #[.slice a n c, .slice a' n c'] w (TrueBelow w) := by
  go_enter Tryf.func29, Tryf.ntmps29
  go_wp2
  go_loopw [5] (fun i wr => ∃ k : Nat, k ≤ n ∧ i = .int .i64 k ∧ Below w.heap.size w wr) (fun i _ => n - (intOf i).toNat)
  case atStart => exact ⟨0, Nat.zero_le _, rfl, Below.refl _ _⟩
  case round =>
    obtain ⟨k, hk, rfl, hb⟩ := hrel
    by_cases hlt : k < n
    · obtain ⟨b0, o0, e0, hcs⟩ := h (by omega)
      cases e0
      obtain ⟨b1, o1, e1, hcs1⟩ := h' (by omega)
      cases e1
      obtain ⟨c0, c1, c2, c3⟩ := hcs k hlt
      obtain ⟨d0, d1, d2, d3⟩ := hcs1 k hlt
      replace c0 := cell_below hb c0
      replace c1 := cell_below hb c1
      replace c2 := cell_below hb c2
      replace c3 := cell_below hb c3
      replace d0 := cell_below hb d0
      replace d1 := cell_below hb d1
      replace d2 := cell_below hb d2
      replace d3 := cell_below hb d3
      have hlti : (k : Int) < (n : Int) := by omega
      have hBk : BytesAt wr.drew (F k) := (hB k hlt).below hb.drew
      clear hcs hcs1 hB
      go_wp2
      go_region_with (go_at_call 31; refine (sameField31 (F k) _ hBk).mono ?_; rintro e w1 ⟨rfl, hb1⟩)
      all_goals
        go_wp2
        go_roundw
        case rel => exact ⟨k + 1, by omega, by go_num, hb.drew.trans (hb1.mono hb.size)⟩
        case measure => simp [intOf]; omega
    · go_wp2
      go_ret
      exact ⟨rfl, hb⟩
end Go.Proofs.Qxb6001688aFmt
