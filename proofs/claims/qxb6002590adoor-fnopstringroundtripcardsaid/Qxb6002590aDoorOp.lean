import Derived.Test.Qxb6002590aDoorPred
import Derived.WalkKit
import Derived.Lib.Walk
import Derived.RegionTactic
import Derived.BigCall
import Derived.BigGuard
namespace Go.Proofs.Qxb6002590aDoor
open Go.RowKit Go.Sort

/-- The numeral of a byte. -/
def dig (n : Nat) : List UInt8 :=
  if n < 10 then [UInt8.ofNat (48 + n)] else if n < 100 then [UInt8.ofNat (48 + n / 10), UInt8.ofNat (48 + n % 10)] else [UInt8.ofNat (48 + n / 10 / 10), UInt8.ofNat (48 + n / 10 % 10), UInt8.ofNat (48 + n % 10)]

theorem itoa_dig (n : Nat) (h : n < 1000) : Lib.itoa (n : Int) = dig n := by
  unfold Lib.itoa dig
  rw [if_neg (by omega), Int.toNat_natCast, Lib.decDigits]
  by_cases h1 : n < 10
  · rw [dif_pos h1, if_pos h1]
  · rw [dif_neg h1, if_neg h1, Lib.decDigits]
    by_cases h2 : n < 100
    · rw [dif_pos (by omega), if_pos h2]; rfl
    · rw [dif_neg (by omega), if_neg h2, Lib.decDigits, dif_pos (by omega)]; rfl

/-- What Op.String says at an op that has no sign of its own. -/
def opText (n : Nat) : ByteArray := ⟨#[79, 112, 40]⟩ ++ ⟨(dig n).toArray⟩ ++ ⟨#[41]⟩

theorem dig_length (n : Nat) : (dig n).length ≤ 3 := by
  unfold dig
  split
  · simp
  · split <;> simp

def Says (s : ByteArray) (w : World) (e : Ending) (w' : World) : Prop := e = .returned (.string s) ∧ ∃ k os, w' = grow (w.drewN k) os

def SaysSame (s : ByteArray) (w : World) (e : Ending) (w' : World) : Prop := e = .returned (.string s) ∧ w = w'

set_option maxHeartbeats 1000000 in
set_option maxRecDepth 100000 in
theorem op5_other (n : Nat) (w : World) (h5 : 5 ≤ n) (hn : n ≤ 255) (htab : Lib.TabIs Tryd.prog w "internal/strconv.uint64pow10" .u64 Lib.pow10Tab) :
    Calls Tryd.prog 5 #[.int .u8 n] w (Says (opText n) w) := by
  have q0 : ((n : Int) == 0) = false := by simp; omega
  have q1 : ((n : Int) == 1) = false := by simp; omega
  have q2 : ((n : Int) == 2) = false := by simp; omega
  have q3 : ((n : Int) == 3) = false := by simp; omega
  have q4 : ((n : Int) == 4) = false := by simp; omega
  have hc : (n : Int) ≤ 255 := by omega
  have hl := dig_length n
  have hl1 : ¬ 9223372036854775807 < 3 + (dig n).length := by omega
  have hl2 : ¬ 9223372036854775807 < 3 + (dig n).length + 1 := by omega
  go_enter Tryd.func5, Tryd.ntmps5
  go_wp2_with fail
  refine (Tryd.strconv_Itoa _ (by omega) (by omega) _ htab).mono ?_
  rintro e w1 ⟨rfl, k, os, rfl⟩
  rw [itoa_dig n (by omega)]
  go_wp2
  go_ret
  exact ⟨rfl, k, os, rfl⟩

theorem op5_0 (w : World) : Calls Tryd.prog 5 #[.int .u8 0] w (SaysSame ⟨#[61]⟩ w) := by
  go_enter Tryd.func5, Tryd.ntmps5
  go_wp2
  go_ret
  exact ⟨rfl, rfl⟩

theorem parse4_0 (w : World) : Calls Tryd.prog 4 #[.string ⟨#[61]⟩] w (Parsed 0 w) := by
  go_enter Tryd.func4, Tryd.ntmps4
  go_wp2
  exact bodyPost_ret (v := .tuple #[.int .u8 0, .bool true]) (by simp [results, Tryd.results4, go_sem]) rfl ⟨rfl, rfl⟩

theorem op5_1 (w : World) : Calls Tryd.prog 5 #[.int .u8 1] w (SaysSame ⟨#[60]⟩ w) := by
  go_enter Tryd.func5, Tryd.ntmps5
  go_wp2
  go_ret
  exact ⟨rfl, rfl⟩

theorem parse4_1 (w : World) : Calls Tryd.prog 4 #[.string ⟨#[60]⟩] w (Parsed 1 w) := by
  go_enter Tryd.func4, Tryd.ntmps4
  go_wp2
  exact bodyPost_ret (v := .tuple #[.int .u8 1, .bool true]) (by simp [results, Tryd.results4, go_sem]) rfl ⟨rfl, rfl⟩

theorem op5_2 (w : World) : Calls Tryd.prog 5 #[.int .u8 2] w (SaysSame ⟨#[60, 61]⟩ w) := by
  go_enter Tryd.func5, Tryd.ntmps5
  go_wp2
  go_ret
  exact ⟨rfl, rfl⟩

theorem parse4_2 (w : World) : Calls Tryd.prog 4 #[.string ⟨#[60, 61]⟩] w (Parsed 2 w) := by
  go_enter Tryd.func4, Tryd.ntmps4
  go_wp2
  exact bodyPost_ret (v := .tuple #[.int .u8 2, .bool true]) (by simp [results, Tryd.results4, go_sem]) rfl ⟨rfl, rfl⟩

theorem op5_3 (w : World) : Calls Tryd.prog 5 #[.int .u8 3] w (SaysSame ⟨#[62]⟩ w) := by
  go_enter Tryd.func5, Tryd.ntmps5
  go_wp2
  go_ret
  exact ⟨rfl, rfl⟩

theorem parse4_3 (w : World) : Calls Tryd.prog 4 #[.string ⟨#[62]⟩] w (Parsed 3 w) := by
  go_enter Tryd.func4, Tryd.ntmps4
  go_wp2
  exact bodyPost_ret (v := .tuple #[.int .u8 3, .bool true]) (by simp [results, Tryd.results4, go_sem]) rfl ⟨rfl, rfl⟩

theorem op5_4 (w : World) : Calls Tryd.prog 5 #[.int .u8 4] w (SaysSame ⟨#[62, 61]⟩ w) := by
  go_enter Tryd.func5, Tryd.ntmps5
  go_wp2
  go_ret
  exact ⟨rfl, rfl⟩

theorem parse4_4 (w : World) : Calls Tryd.prog 4 #[.string ⟨#[62, 61]⟩] w (Parsed 4 w) := by
  go_enter Tryd.func4, Tryd.ntmps4
  go_wp2
  exact bodyPost_ret (v := .tuple #[.int .u8 4, .bool true]) (by simp [results, Tryd.results4, go_sem]) rfl ⟨rfl, rfl⟩

end Go.Proofs.Qxb6002590aDoor
