import Derived.Test.Qxb6601328aDoorNode
namespace Go.Proofs.Qxb6601328aDoor
open Go.RowKit Go.Own

set_option maxHeartbeats 1000000 in
set_option linter.unusedVariables false in
theorem slush_no0 (alpha beta rounds v0 v1 c0 c1 s p f col pr : Int) (d : Bool) (w : World) (hs : 0 ≤ s ∧ s ≤ 1000000) (hp : 0 ≤ p ∧ p ≤ 1000000) (hf : 0 ≤ f ∧ f ≤ 1000000) (h0 : 0 ≤ c0 ∧ c0 ≤ 1000000) (h1 : 0 ≤ c1 ∧ c1 ≤ 1000000) (hv : decide (v0 < v1) = false) (ho : decide (alpha ≤ v0) = false) :
    Calls Tryd.prog 7 #[.pointer (some ⟨w.heap.size, 0, Option.none⟩), .agg #[.int .u8 1, .int .i64 0, .int .i64 alpha, .int .i64 beta, .int .i64 rounds, .int .i64 0, .int .u8 0, .int .i64 0], .pointer (some ⟨w.heap.size + 1, 0, Option.none⟩)] ((w.alloc (ndV c0 c1 s p f v0 v1 col d)).alloc (prO pr))
      (Polled w c0 c1 s (p + 1) f col (decide (rounds ≤ p + 1)) pr) := by
  have bs : -9223372036854775808 ≤ s + 1 ∧ s + 1 ≤ 9223372036854775807 := by omega
  have bp : -9223372036854775808 ≤ p + 1 ∧ p + 1 ≤ 9223372036854775807 := by omega
  have bf : -9223372036854775808 ≤ f + 1 ∧ f + 1 ≤ 9223372036854775807 := by omega
  have b0 : -9223372036854775808 ≤ c0 + 1 ∧ c0 + 1 ≤ 9223372036854775807 := by omega
  have b1 : -9223372036854775808 ≤ c1 + 1 ∧ c1 + 1 ≤ 9223372036854775807 := by omega
  clear hs hp hf h0 h1
  go_enter Tryd.func7, Tryd.ntmps7
  go_wp2
  go_region
  all_goals
    go_wp2
    first | go_end0 | refine bodyPost_ret (results_none rfl _ _ _) rfl ?_
    go_wp2
    go_ret
    exact ⟨rfl, _, _, _, 1, rfl⟩

set_option maxHeartbeats 1000000 in
set_option linter.unusedVariables false in
theorem slush_00 (alpha beta rounds v0 v1 c0 c1 s p f col pr : Int) (d : Bool) (w : World) (hs : 0 ≤ s ∧ s ≤ 1000000) (hp : 0 ≤ p ∧ p ≤ 1000000) (hf : 0 ≤ f ∧ f ≤ 1000000) (h0 : 0 ≤ c0 ∧ c0 ≤ 1000000) (h1 : 0 ≤ c1 ∧ c1 ≤ 1000000) (hv : decide (v0 < v1) = false) (ho : decide (alpha ≤ v0) = true) :
    Calls Tryd.prog 7 #[.pointer (some ⟨w.heap.size, 0, Option.none⟩), .agg #[.int .u8 1, .int .i64 0, .int .i64 alpha, .int .i64 beta, .int .i64 rounds, .int .i64 0, .int .u8 0, .int .i64 0], .pointer (some ⟨w.heap.size + 1, 0, Option.none⟩)] ((w.alloc (ndV c0 c1 s p f v0 v1 col d)).alloc (prO 0))
      (Polled w c0 c1 s (p + 1) f col (decide (rounds ≤ p + 1)) 0) := by
  have bs : -9223372036854775808 ≤ s + 1 ∧ s + 1 ≤ 9223372036854775807 := by omega
  have bp : -9223372036854775808 ≤ p + 1 ∧ p + 1 ≤ 9223372036854775807 := by omega
  have bf : -9223372036854775808 ≤ f + 1 ∧ f + 1 ≤ 9223372036854775807 := by omega
  have b0 : -9223372036854775808 ≤ c0 + 1 ∧ c0 + 1 ≤ 9223372036854775807 := by omega
  have b1 : -9223372036854775808 ≤ c1 + 1 ∧ c1 + 1 ≤ 9223372036854775807 := by omega
  clear hs hp hf h0 h1
  go_enter Tryd.func7, Tryd.ntmps7
  go_wp2
  go_region
  all_goals
    go_wp2
    first | go_end0 | refine bodyPost_ret (results_none rfl _ _ _) rfl ?_
    go_wp2
    go_ret
    exact ⟨rfl, _, _, _, 1, rfl⟩

set_option maxHeartbeats 1000000 in
set_option linter.unusedVariables false in
theorem slush_01 (alpha beta rounds v0 v1 c0 c1 s p f col pr : Int) (d : Bool) (w : World) (hs : 0 ≤ s ∧ s ≤ 1000000) (hp : 0 ≤ p ∧ p ≤ 1000000) (hf : 0 ≤ f ∧ f ≤ 1000000) (h0 : 0 ≤ c0 ∧ c0 ≤ 1000000) (h1 : 0 ≤ c1 ∧ c1 ≤ 1000000) (hv : decide (v0 < v1) = false) (ho : decide (alpha ≤ v0) = true) :
    Calls Tryd.prog 7 #[.pointer (some ⟨w.heap.size, 0, Option.none⟩), .agg #[.int .u8 1, .int .i64 0, .int .i64 alpha, .int .i64 beta, .int .i64 rounds, .int .i64 0, .int .u8 0, .int .i64 0], .pointer (some ⟨w.heap.size + 1, 0, Option.none⟩)] ((w.alloc (ndV c0 c1 s p f v0 v1 col d)).alloc (prO 1))
      (Polled w c0 c1 s (p + 1) (f + 1) col (decide (rounds ≤ p + 1)) 0) := by
  have bs : -9223372036854775808 ≤ s + 1 ∧ s + 1 ≤ 9223372036854775807 := by omega
  have bp : -9223372036854775808 ≤ p + 1 ∧ p + 1 ≤ 9223372036854775807 := by omega
  have bf : -9223372036854775808 ≤ f + 1 ∧ f + 1 ≤ 9223372036854775807 := by omega
  have b0 : -9223372036854775808 ≤ c0 + 1 ∧ c0 + 1 ≤ 9223372036854775807 := by omega
  have b1 : -9223372036854775808 ≤ c1 + 1 ∧ c1 + 1 ≤ 9223372036854775807 := by omega
  clear hs hp hf h0 h1
  go_enter Tryd.func7, Tryd.ntmps7
  go_wp2
  go_region
  all_goals
    go_wp2
    first | go_end0 | refine bodyPost_ret (results_none rfl _ _ _) rfl ?_
    go_wp2
    go_ret
    exact ⟨rfl, _, _, _, 1, rfl⟩

set_option maxHeartbeats 1000000 in
set_option linter.unusedVariables false in
theorem slush_no1 (alpha beta rounds v0 v1 c0 c1 s p f col pr : Int) (d : Bool) (w : World) (hs : 0 ≤ s ∧ s ≤ 1000000) (hp : 0 ≤ p ∧ p ≤ 1000000) (hf : 0 ≤ f ∧ f ≤ 1000000) (h0 : 0 ≤ c0 ∧ c0 ≤ 1000000) (h1 : 0 ≤ c1 ∧ c1 ≤ 1000000) (hv : decide (v0 < v1) = true) (ho : decide (alpha ≤ v1) = false) :
    Calls Tryd.prog 7 #[.pointer (some ⟨w.heap.size, 0, Option.none⟩), .agg #[.int .u8 1, .int .i64 0, .int .i64 alpha, .int .i64 beta, .int .i64 rounds, .int .i64 0, .int .u8 0, .int .i64 0], .pointer (some ⟨w.heap.size + 1, 0, Option.none⟩)] ((w.alloc (ndV c0 c1 s p f v0 v1 col d)).alloc (prO pr))
      (Polled w c0 c1 s (p + 1) f col (decide (rounds ≤ p + 1)) pr) := by
  have bs : -9223372036854775808 ≤ s + 1 ∧ s + 1 ≤ 9223372036854775807 := by omega
  have bp : -9223372036854775808 ≤ p + 1 ∧ p + 1 ≤ 9223372036854775807 := by omega
  have bf : -9223372036854775808 ≤ f + 1 ∧ f + 1 ≤ 9223372036854775807 := by omega
  have b0 : -9223372036854775808 ≤ c0 + 1 ∧ c0 + 1 ≤ 9223372036854775807 := by omega
  have b1 : -9223372036854775808 ≤ c1 + 1 ∧ c1 + 1 ≤ 9223372036854775807 := by omega
  clear hs hp hf h0 h1
  go_enter Tryd.func7, Tryd.ntmps7
  go_wp2
  go_region
  all_goals
    go_wp2
    first | go_end0 | refine bodyPost_ret (results_none rfl _ _ _) rfl ?_
    go_wp2
    go_ret
    exact ⟨rfl, _, _, _, 1, rfl⟩

set_option maxHeartbeats 1000000 in
set_option linter.unusedVariables false in
theorem slush_10 (alpha beta rounds v0 v1 c0 c1 s p f col pr : Int) (d : Bool) (w : World) (hs : 0 ≤ s ∧ s ≤ 1000000) (hp : 0 ≤ p ∧ p ≤ 1000000) (hf : 0 ≤ f ∧ f ≤ 1000000) (h0 : 0 ≤ c0 ∧ c0 ≤ 1000000) (h1 : 0 ≤ c1 ∧ c1 ≤ 1000000) (hv : decide (v0 < v1) = true) (ho : decide (alpha ≤ v1) = true) :
    Calls Tryd.prog 7 #[.pointer (some ⟨w.heap.size, 0, Option.none⟩), .agg #[.int .u8 1, .int .i64 0, .int .i64 alpha, .int .i64 beta, .int .i64 rounds, .int .i64 0, .int .u8 0, .int .i64 0], .pointer (some ⟨w.heap.size + 1, 0, Option.none⟩)] ((w.alloc (ndV c0 c1 s p f v0 v1 col d)).alloc (prO 0))
      (Polled w c0 c1 s (p + 1) (f + 1) col (decide (rounds ≤ p + 1)) 1) := by
  have bs : -9223372036854775808 ≤ s + 1 ∧ s + 1 ≤ 9223372036854775807 := by omega
  have bp : -9223372036854775808 ≤ p + 1 ∧ p + 1 ≤ 9223372036854775807 := by omega
  have bf : -9223372036854775808 ≤ f + 1 ∧ f + 1 ≤ 9223372036854775807 := by omega
  have b0 : -9223372036854775808 ≤ c0 + 1 ∧ c0 + 1 ≤ 9223372036854775807 := by omega
  have b1 : -9223372036854775808 ≤ c1 + 1 ∧ c1 + 1 ≤ 9223372036854775807 := by omega
  clear hs hp hf h0 h1
  go_enter Tryd.func7, Tryd.ntmps7
  go_wp2
  go_region
  all_goals
    go_wp2
    first | go_end0 | refine bodyPost_ret (results_none rfl _ _ _) rfl ?_
    go_wp2
    go_ret
    exact ⟨rfl, _, _, _, 1, rfl⟩

set_option maxHeartbeats 1000000 in
set_option linter.unusedVariables false in
theorem slush_11 (alpha beta rounds v0 v1 c0 c1 s p f col pr : Int) (d : Bool) (w : World) (hs : 0 ≤ s ∧ s ≤ 1000000) (hp : 0 ≤ p ∧ p ≤ 1000000) (hf : 0 ≤ f ∧ f ≤ 1000000) (h0 : 0 ≤ c0 ∧ c0 ≤ 1000000) (h1 : 0 ≤ c1 ∧ c1 ≤ 1000000) (hv : decide (v0 < v1) = true) (ho : decide (alpha ≤ v1) = true) :
    Calls Tryd.prog 7 #[.pointer (some ⟨w.heap.size, 0, Option.none⟩), .agg #[.int .u8 1, .int .i64 0, .int .i64 alpha, .int .i64 beta, .int .i64 rounds, .int .i64 0, .int .u8 0, .int .i64 0], .pointer (some ⟨w.heap.size + 1, 0, Option.none⟩)] ((w.alloc (ndV c0 c1 s p f v0 v1 col d)).alloc (prO 1))
      (Polled w c0 c1 s (p + 1) f col (decide (rounds ≤ p + 1)) 1) := by
  have bs : -9223372036854775808 ≤ s + 1 ∧ s + 1 ≤ 9223372036854775807 := by omega
  have bp : -9223372036854775808 ≤ p + 1 ∧ p + 1 ≤ 9223372036854775807 := by omega
  have bf : -9223372036854775808 ≤ f + 1 ∧ f + 1 ≤ 9223372036854775807 := by omega
  have b0 : -9223372036854775808 ≤ c0 + 1 ∧ c0 + 1 ≤ 9223372036854775807 := by omega
  have b1 : -9223372036854775808 ≤ c1 + 1 ∧ c1 + 1 ≤ 9223372036854775807 := by omega
  clear hs hp hf h0 h1
  go_enter Tryd.func7, Tryd.ntmps7
  go_wp2
  go_region
  all_goals
    go_wp2
    first | go_end0 | refine bodyPost_ret (results_none rfl _ _ _) rfl ?_
    go_wp2
    go_ret
    exact ⟨rfl, _, _, _, 1, rfl⟩

end Go.Proofs.Qxb6601328aDoor
