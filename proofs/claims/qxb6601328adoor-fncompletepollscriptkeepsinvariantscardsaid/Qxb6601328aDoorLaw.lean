import Derived.Test.Qxb6601328aDoorLoop
import Derived.Deep.DeepCutAuto
import Derived.Deep.CutBlock
namespace Go.Proofs.Qxb6601328aDoor
open Go.RowKit Go.Own

set_option maxHeartbeats 8000000 in
set_option maxRecDepth 100000 in
theorem law3 (proto alpha beta rounds pref0 : Int) (a : Option Addr) (n c : Nat) (w : World) (hp : 0 ≤ proto) (hq : 0 ≤ pref0) (hcap : n ≤ c) (hnil : a = Option.none → c = 0) (h : PairsAt w a n) :
    Calls Tryd.prog 3 #[.int .u8 proto, .int .i64 alpha, .int .i64 beta, .int .i64 rounds, .int .u8 pref0, .slice a n c] w (TrueBelow w) := by
  by_cases hg : n ≤ 65536 ∧ proto ≤ 2 ∧ pref0 ≤ 1
  · obtain ⟨hn, hp2, hq1⟩ := hg
    have hnl := Tryd.nil22
    have hmk := run_make24 n (by omega)
    have t1 : decide ((65536 : Int) < n) = false := by simp; omega
    have t2 : decide ((2 : Int) < proto) = false := by simp; omega
    have t3 : decide ((1 : Int) < pref0) = false := by simp; omega
    go_enter Tryd.func3, Tryd.ntmps3
    go_wp2_with fail
    refine (zzBytes4 _ _ _ _ _ _ _ _ _).mono ?_
    rintro e w1 ⟨b, rfl, rfl⟩
    cases b
    · go_wp2
      go_ret
      exact ⟨rfl, Below.refl _ _⟩
    go_upto_if 44 with fail
    go_cut [5] (fun s5 wc => ∃ a' c', s5 = .slice a' n c' ∧ PairsAt wc a' n ∧ Below w.heap.size w wc)
    case first =>
      cases a with
      | none =>
        have hc0 := hnil rfl
        subst hc0
        have hn0 : n = 0 := by omega
        subst hn0
        go_wp2_with fail
        go_meet
        exact ⟨_, _, rfl, fun h => absurd h (Nat.lt_irrefl _), Below.refl _ _⟩
      | some ad =>
        go_wp2_with fail
        go_loopw [14] (fun i wr => ∃ k : Nat, k ≤ n ∧ i = .int .i64 k ∧ Below w.heap.size w wr ∧ IntRow wr w.heap.size (n * 2)) (fun i _ => n - (intOf i).toNat)
        case atStart => exact ⟨0, Nat.zero_le _, rfl, (Below.refl _ _).alloc (Nat.le_refl _) _, IntRow.made _ _⟩
        case round =>
          obtain ⟨k, hk, rfl, hb, hrow⟩ := hrel
          by_cases hlt : k < n
          · obtain ⟨b, off, e0, hcs⟩ := h (by omega)
            cases e0
            obtain ⟨x, y, h0, h1⟩ := hcs k hlt
            replace h0 := cell_below hb h0
            replace h1 := cell_below hb h1
            obtain ⟨g, hr, hg⟩ := hrow
            have hd0 := hr.cell (i := k * 2) (by omega)
            have hd1 := hr.cell (i := k * 2 + 1) (by omega)
            have hf0 := hr.frozen (k * 2)
            have hf1 := hr.frozen (k * 2 + 1)
            clear hcs
            go_wp2_with fail
            go_roundw
            case rel => exact ⟨k + 1, by omega, by go_num, (hb.setCell (p := ⟨w.heap.size, _, Option.none⟩) (Nat.le_refl _) _).setCell (p := ⟨w.heap.size, _, Option.none⟩) (Nat.le_refl _) _, IntRow.set2 ⟨g, hr, hg⟩ k x y⟩
            case measure => simp [intOf]; omega
          · go_wp2_with fail
            go_meet
            exact ⟨_, _, rfl, hrow.pairs, hb⟩
    case rest =>
      obtain ⟨a', c', rfl, hP, hB0⟩ := hcut
      have hpc : proto = 0 ∨ proto = 1 ∨ proto = 2 := by omega
      go_wp2_with fail
      refine (params5 _ _ _ _ _).mono ?_
      rintro e w5 ⟨rfl, hB5⟩
      replace hP := hP.below hB5
      have hBw := below_step hB0 hB5
      go_wp2_with fail
      have hP8 : PairsAt (w5.alloc (.cells #[.int .u8 proto, .int .i64 0, .int .i64 alpha, .int .i64 beta, .int .i64 rounds, .int .i64 0, .int .u8 0, .int .i64 0] 29)) a' n := hP.below ((Below.refl _ _).alloc (Nat.le_refl _) _)
      obtain ⟨w8, hw8⟩ : ∃ w8, w8 = w5.alloc (.cells #[.int .u8 proto, .int .i64 0, .int .i64 alpha, .int .i64 beta, .int .i64 rounds, .int .i64 0, .int .u8 0, .int .i64 0] 29) := ⟨_, rfl⟩
      have hz8 : w8.heap.size = w5.heap.size + 1 := by rw [hw8]; simp
      have hB8 : Below w.heap.size w w8 := by rw [hw8]; exact hBw.alloc hBw.size _
      have hpar : ∀ j v, (#[.int .u8 proto, .int .i64 0, .int .i64 alpha, .int .i64 beta, .int .i64 rounds, .int .i64 0, .int .u8 0, .int .i64 0] : Array Value)[j]? = some v → w8.cell? ⟨w5.heap.size, j, Option.none⟩ = some v := fun j v hv => by rw [hw8]; exact cell_new _ _ _ _ hv
      rw [← hw8] at hP8
      refine theLoop proto alpha beta rounds n c' w5.heap.size (w5.heap.size + 1) a' w8 _ _ _ hpc hn hP8 (by omega) hpar ⟨0, 0, 0, 0, 0, 0, false, pref0, _, _, _, _, _, _, ⟨rfl, rfl, rfl, rfl, rfl, rfl, rfl, rfl, rfl, rfl, rfl, rfl, rfl, rfl, rfl, rfl, rfl, rfl⟩, ⟨by omega, by omega, .inl rfl, by simp, by simp, by simp, by simp, by simp, by simp, by simp⟩, ?_, ?_⟩ ?_
      · rw [← hw8]; exact (Below.refl _ _).alloc (Nat.le_refl _) _
      · rw [← hw8, ← hz8]
        exact World.rowIs_alloc w8 _ 33 _ (fun i hi => by
          have : i = 0 ∨ i = 1 ∨ i = 2 ∨ i = 3 ∨ i = 4 ∨ i = 5 ∨ i = 6 ∨ i = 7 ∨ i = 8 ∨ i = 9 ∨ i = 10 ∨ i = 11 := by simp at hi; omega
          rcases this with rfl | rfl | rfl | rfl | rfl | rfl | rfl | rfl | rfl | rfl | rfl | rfl <;> rfl)
      · intro a9 w9 k i pr s20 s21 s22 s23 s24 s25 hF9 hb9
        refine fr_open (fun a => Exit.inBlock 2 (Exit.then _ (bodyPost Tryd.prog Tryd.f3 (TrueBelow w))) (Exit.exit 2) a w9) a9 hF9 ?_
        intros
        go_wp2
        go_ret
        exact ⟨rfl, hB8.trans (hb9.mono hB8.size)⟩
  · exact law3_guard _ _ _ _ _ _ _ _ _ hg
end Go.Proofs.Qxb6601328aDoor
