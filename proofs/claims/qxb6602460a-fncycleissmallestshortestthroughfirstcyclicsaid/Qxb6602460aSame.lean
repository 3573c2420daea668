import Derived.Test.Qxb6602460aTabs
import Derived.Deep.QuietTactic
import Derived.BigQuiet
namespace Go.Proofs.Qxb6602460a
open Go.RowKit Go.Maps Go.Own

/-- True comes back; only draws have been made. -/
def TrueDrawn (w : World) (e : Ending) (w' : World) : Prop := e = .returned (.bool true) ∧ ∃ j, w' = w.drewN j

set_option maxHeartbeats 400000 in
theorem sameInts_true (a a' : Option Addr) (n c c' : Nat) (x : Nat → Int) (w : World) (h : SliceAt w a n c (fun i => .int .i64 (x i))) (h' : SliceAt w a' n c' (fun i => .int .i64 (x i))) (hn : n ≤ 1048576) :
    Calls Try.prog 23 #[.slice a n c, .slice a' n c'] w (TrueDrawn w) := by
  go_enter Try.func23, Try.ntmps23
  go_wp2
  go_loopw [5] (fun i wr => ∃ k : Nat, k ≤ n ∧ i = .int .i64 k ∧ ∃ j, wr = w.drewN j) (fun i _ => n - (intOf i).toNat)
  case atStart => exact ⟨0, Nat.zero_le _, rfl, 0, rfl⟩
  case round =>
    obtain ⟨k, hk, rfl, j, rfl⟩ := hrel
    by_cases hlt : k < n
    · obtain ⟨b, off, hb1, hcs⟩ := h.cells (by omega)
      cases hb1
      obtain ⟨b2, off2, hb2, hcs2⟩ := h'.cells (by omega)
      cases hb2
      have hck := hcs k hlt
      have hck2 := hcs2 k hlt
      have hlt' : (k : Int) < (n : Int) := by omega
      clear hcs hcs2
      go_wp2
      go_quiet (fail)
      go_wp2
      go_roundw
      case rel => exact ⟨k + 1, by omega, by go_num, _, rfl⟩
      case measure => simp [intOf]; omega
    · go_wp2
      go_ret
      exact ⟨rfl, j, rfl⟩

set_option maxHeartbeats 400000 in
theorem sameIntsNil_true (a a' : Option Addr) (n c c' : Nat) (x : Nat → Int) (w : World) (h : SliceAt w a n c (fun i => .int .i64 (x i))) (h' : SliceAt w a' n c' (fun i => .int .i64 (x i))) (hn : n ≤ 1048576) (hnil : a' = Option.none ↔ a = Option.none) :
    Calls Try.prog 40 #[.slice a n c, .slice a' n c'] w (TrueDrawn w) := by
  have hnl := nil22
  have hs := sameInts_true a a' n c c' x w h h' hn
  cases a with
  | none =>
    have e := hnil.2 rfl
    subst e
    clear hnil
    go_enter Try.func40, Try.ntmps40
    go_wp2_with (go_at_call 23; refine hs.mono ?_; rintro e w1 ⟨rfl, j, rfl⟩)
    go_ret
    exact ⟨rfl, j, rfl⟩
  | some ad =>
    cases a' with
    | none => exact absurd (hnil.1 rfl) (by simp)
    | some ad' =>
      clear hnil
      go_enter Try.func40, Try.ntmps40
      go_wp2_with (go_at_call 23; refine hs.mono ?_; rintro e w1 ⟨rfl, j, rfl⟩)
      go_ret
      exact ⟨rfl, j, rfl⟩

/-- A marked key's list, as stored and as copied. -/
def Kept (w : World) (F : Lit → Option Value) (s : ByteArray) (A' : Option Addr) (N' C' : Nat) : Prop :=
  N' ≤ 1048576 ∧ ∃ (a : Option Addr) (c : Nat) (x : Nat → Int), F (skey s) = some (.slice a N' c) ∧ (A' = Option.none ↔ a = Option.none) ∧ SliceAt w a N' c (fun i => .int .i64 (x i)) ∧ SliceAt w A' N' C' (fun i => .int .i64 (x i))

set_option maxHeartbeats 400000 in
theorem othersUnchanged_true (bv : Option Nat) (ka ma sa : Option Addr) (nk ck cm cs n sz : Nat) (S : Nat → ByteArray) (M : Nat → Bool) (A' : Nat → Option Addr) (N' C' : Nat → Nat) (F : Lit → Option Value) (w : World)
    (ht : Tab Try.prog 9 w (.map bv) n F sz) (hk : SliceAt w ka nk ck (fun i => .string (S i))) (hm : SliceAt w ma nk cm (fun i => .bool (M i))) (hs : SliceAt w sa nk cs (fun i => .slice (A' i) (N' i) (C' i))) (hnk : nk ≤ 65536)
    (hS : ∀ i, i < nk → (S i).size ≤ maxLen) (hkept : bv ≠ Option.none → ∀ i, i < nk → M i = true → Kept w F (S i) (A' i) (N' i) (C' i)) :
    Calls Try.prog 35 #[.map bv, .slice ka nk ck, .slice ma nk cm, .slice sa nk cs] w (TrueDrawn w) := by
  have hnl := fun (w : World) (r : Option Nat) => run_eql_map_nil (P := Try.prog) w 41 9 22 r Try.underlying41
  cases bv with
  | none =>
    go_enter Try.func35, Try.ntmps35
    go_wp2
    go_ret
    exact ⟨rfl, 0, rfl⟩
  | some b =>
    have HK := hide (hkept (by simp))
    clear hkept
    go_enter Try.func35, Try.ntmps35
    go_wp2
    go_loopw [9] (fun i wr => ∃ k : Nat, k ≤ nk ∧ i = .int .i64 k ∧ ∃ j, wr = w.drewN j) (fun i _ => nk - (intOf i).toNat)
    case atStart => exact ⟨0, Nat.zero_le _, rfl, 0, rfl⟩
    case round =>
      obtain ⟨k, hk', rfl, j, rfl⟩ := hrel
      by_cases hlt : k < nk
      · obtain ⟨b1, off1, hb1, hcs1⟩ := hk.cells (by omega)
        cases hb1
        obtain ⟨b2, off2, hb2, hcs2⟩ := hm.cells (by omega)
        cases hb2
        obtain ⟨b3, off3, hb3, hcs3⟩ := hs.cells (by omega)
        cases hb3
        have hck1 := hcs1 k hlt
        have hck2 := hcs2 k hlt
        have hck3 := hcs3 k hlt
        cases hM : M k
        · rw [hM] at hck2
          clear hcs1 hcs2 hcs3 hS
          go_wp2
          go_roundw
          case rel => exact ⟨k + 1, by omega, by go_num, _, rfl⟩
          case measure => simp [intOf]; omega
        · obtain ⟨hN, a, c, x, hF, hnil, g1, g2⟩ := unhide HK k hlt hM
          rw [hM] at hck2
          have hlk := (ht.drewN j).look_ok law9 Try.underlying41 (zero22 _) (skey_ok (hS k hlt))
          rw [hF] at hlk
          simp only [Option.getD_some, Option.isSome_some] at hlk
          have hsm := sameIntsNil_true a (A' k) (N' k) c (C' k) x (w.drewN j) (g1.alike ⟨rfl, rfl, rfl⟩) (g2.alike ⟨rfl, rfl, rfl⟩) hN hnil
          clear hcs1 hcs2 hcs3 hS hF hnil
          go_wp2_with (go_at_call 40; refine hsm.mono ?_; rintro e w1 ⟨rfl, i2, rfl⟩)
          go_roundw
          case rel => exact ⟨k + 1, by omega, by go_num, _, rfl⟩
          case measure => simp [intOf]; omega
      · go_wp2
        go_ret
        exact ⟨rfl, j, rfl⟩
end Go.Proofs.Qxb6602460a
