import Derived.Test.Qxb6002590aDoorParse
import Derived.Test.Qxb6002590aDoorOp
namespace Go.Proofs.Qxb6002590aDoor
open Go.RowKit Go.Sort

def TrueGrown (w : World) (e : Ending) (w' : World) : Prop := e = .returned (.bool true) ∧ ∃ k os, w' = grow (w.drewN k) os

theorem digOf (k : Nat) (h : k ≤ 9) : (UInt8.ofNat (48 + k)).toNat = 48 + k := by
  rw [UInt8.toNat_ofNat']
  omega

theorem parse_other (n : Nat) (w : World) (h5 : 5 ≤ n) (hn : n ≤ 255) : Calls Tryd.prog 4 #[.string (opText n)] w (Parsed n w) := by
  by_cases h1 : n < 10
  · have e : opText n = ⟨#[79, 112, 40, UInt8.ofNat (48 + n), 41]⟩ := by
      unfold opText dig
      rw [if_pos h1]
      rfl
    rw [e]
    have d0 := digOf n (by omega)
    refine parseS1 _ ⟨#[UInt8.ofNat (48 + n)]⟩ (fun _ => 48 + n) n w rfl rfl rfl (fun _ => rfl) (fun _ => rfl) (fun _ => rfl) (fun _ => rfl) (fun i h => ?_) (fun i h => by omega) (by omega) (by simp only [pv]; omega) hn
    match i, h with
    | 0, _ => exact d0
    | k + 1, h => exact absurd (show k + 1 < 1 from h) (by omega)
  · by_cases h2 : n < 100
    · have e : opText n = ⟨#[79, 112, 40, UInt8.ofNat (48 + n / 10), UInt8.ofNat (48 + n % 10), 41]⟩ := by
        unfold opText dig
        rw [if_neg h1, if_pos h2]
        rfl
      rw [e]
      have d0 := digOf (n / 10) (by omega)
      have d1 := digOf (n % 10) (by omega)
      refine parseS2 _ ⟨#[UInt8.ofNat (48 + n / 10), UInt8.ofNat (48 + n % 10)]⟩ (fun i => if i = 0 then 48 + n / 10 else 48 + n % 10) n w rfl rfl rfl (fun _ => rfl) (fun _ => rfl) (fun _ => rfl) (fun _ => rfl) (fun i h => ?_) (fun i h => ?_) (by simp; omega) (by simp only [pv]; simp; omega) hn
      · match i, h with
        | 0, _ => exact d0
        | 1, _ => exact d1
        | k + 2, h => exact absurd (show k + 2 < 2 from h) (by omega)
      · by_cases e : i = 0
        · simp only [e, if_true]; omega
        · simp only [e, if_false]; omega
    · have e : opText n = ⟨#[79, 112, 40, UInt8.ofNat (48 + n / 10 / 10), UInt8.ofNat (48 + n / 10 % 10), UInt8.ofNat (48 + n % 10), 41]⟩ := by
        unfold opText dig
        rw [if_neg h1, if_neg h2]
        rfl
      rw [e]
      have d0 := digOf (n / 10 / 10) (by omega)
      have d1 := digOf (n / 10 % 10) (by omega)
      have d2 := digOf (n % 10) (by omega)
      refine parseS3 _ ⟨#[UInt8.ofNat (48 + n / 10 / 10), UInt8.ofNat (48 + n / 10 % 10), UInt8.ofNat (48 + n % 10)]⟩ (fun i => if i = 0 then 48 + n / 10 / 10 else if i = 1 then 48 + n / 10 % 10 else 48 + n % 10) n w rfl rfl rfl (fun _ => rfl) (fun _ => rfl) (fun _ => rfl) (fun _ => rfl) (fun i h => ?_) (fun i h => ?_) (by simp; omega) (by simp only [pv]; simp; omega) hn
      · match i, h with
        | 0, _ => exact d0
        | 1, _ => exact d1
        | 2, _ => exact d2
        | k + 3, h => exact absurd (show k + 3 < 3 from h) (by omega)
      · by_cases e : i = 0
        · simp only [e, if_true]; omega
        · by_cases e1 : i = 1
          · simp only [e1, if_true, Nat.one_ne_zero, if_false]; omega
          · simp only [e, e1, if_false]; omega

theorem law3_0 (w : World) : Calls Tryd.prog 3 #[.int .u8 0] w (TrueGrown w) := by
  go_enter Tryd.func3, Tryd.ntmps3
  go_wp2_with fail
  refine (op5_0 _).mono ?_
  rintro e w1 ⟨rfl, rfl⟩
  go_wp2_with fail
  refine (parse4_0 _).mono ?_
  rintro e w2 ⟨rfl, rfl⟩
  go_wp2
  go_ret
  exact ⟨rfl, 0, #[], by rw [grow_empty]; rfl⟩

theorem law3_1 (w : World) : Calls Tryd.prog 3 #[.int .u8 1] w (TrueGrown w) := by
  go_enter Tryd.func3, Tryd.ntmps3
  go_wp2_with fail
  refine (op5_1 _).mono ?_
  rintro e w1 ⟨rfl, rfl⟩
  go_wp2_with fail
  refine (parse4_1 _).mono ?_
  rintro e w2 ⟨rfl, rfl⟩
  go_wp2
  go_ret
  exact ⟨rfl, 0, #[], by rw [grow_empty]; rfl⟩

theorem law3_2 (w : World) : Calls Tryd.prog 3 #[.int .u8 2] w (TrueGrown w) := by
  go_enter Tryd.func3, Tryd.ntmps3
  go_wp2_with fail
  refine (op5_2 _).mono ?_
  rintro e w1 ⟨rfl, rfl⟩
  go_wp2_with fail
  refine (parse4_2 _).mono ?_
  rintro e w2 ⟨rfl, rfl⟩
  go_wp2
  go_ret
  exact ⟨rfl, 0, #[], by rw [grow_empty]; rfl⟩

theorem law3_3 (w : World) : Calls Tryd.prog 3 #[.int .u8 3] w (TrueGrown w) := by
  go_enter Tryd.func3, Tryd.ntmps3
  go_wp2_with fail
  refine (op5_3 _).mono ?_
  rintro e w1 ⟨rfl, rfl⟩
  go_wp2_with fail
  refine (parse4_3 _).mono ?_
  rintro e w2 ⟨rfl, rfl⟩
  go_wp2
  go_ret
  exact ⟨rfl, 0, #[], by rw [grow_empty]; rfl⟩

theorem law3_4 (w : World) : Calls Tryd.prog 3 #[.int .u8 4] w (TrueGrown w) := by
  go_enter Tryd.func3, Tryd.ntmps3
  go_wp2_with fail
  refine (op5_4 _).mono ?_
  rintro e w1 ⟨rfl, rfl⟩
  go_wp2_with fail
  refine (parse4_4 _).mono ?_
  rintro e w2 ⟨rfl, rfl⟩
  go_wp2
  go_ret
  exact ⟨rfl, 0, #[], by rw [grow_empty]; rfl⟩

set_option maxRecDepth 100000 in
theorem law3_other (n : Nat) (w : World) (h5 : 5 ≤ n) (hn : n ≤ 255) (htab : Lib.TabIs Tryd.prog w "internal/strconv.uint64pow10" .u64 Lib.pow10Tab) : Calls Tryd.prog 3 #[.int .u8 n] w (TrueGrown w) := by
  go_enter Tryd.func3, Tryd.ntmps3
  go_wp2_with fail
  refine (op5_other n _ h5 hn htab).mono ?_
  rintro e w1 ⟨rfl, k, os, rfl⟩
  go_wp2_with fail
  refine (parse_other n _ h5 hn).mono ?_
  rintro e w2 ⟨rfl, rfl⟩
  go_wp2
  go_ret
  exact ⟨rfl, k, os, rfl⟩

theorem law3 (n : Nat) (w : World) (hn : n ≤ 255) (htab : Lib.TabIs Tryd.prog w "internal/strconv.uint64pow10" .u64 Lib.pow10Tab) : Calls Tryd.prog 3 #[.int .u8 n] w (TrueGrown w) := by
  by_cases h5 : 5 ≤ n
  · exact law3_other n w h5 hn htab
  · rcases (show n = 0 ∨ n = 1 ∨ n = 2 ∨ n = 3 ∨ n = 4 by omega) with rfl | rfl | rfl | rfl | rfl
    · exact law3_0 w
    · exact law3_1 w
    · exact law3_2 w
    · exact law3_3 w
    · exact law3_4 w
end Go.Proofs.Qxb6002590aDoor
