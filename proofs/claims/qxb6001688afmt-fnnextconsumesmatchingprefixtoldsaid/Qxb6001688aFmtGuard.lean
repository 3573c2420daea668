import Derived.Test.Qxb6001688aFmtCalls
namespace Go.Proofs.Qxb6001688aFmt
open Go.RowKit Go.Own

set_option maxHeartbeats 4000000 in
set_option maxRecDepth 100000 in
theorem law7_big (a0 a1 a2 a3 a4 a5 : Option Addr) (n0 c0 n1 c1 n2 c2 n3 c3 n4 c4 n5 c5 : Nat) (w : World) (hsz : ¬ (n0 ≤ 1024 ∧ n1 ≤ 1024 ∧ n2 ≤ 1024 ∧ n3 ≤ 1024 ∧ n4 ≤ 1024 ∧ n5 ≤ 1024)) :
    Calls Tryf.prog 7 #[.slice a0 n0 c0, .slice a1 n1 c1, .slice a2 n2 c2, .slice a3 n3 c3, .slice a4 n4 c4, .slice a5 n5 c5] w (TrueBelow w) := by
  have HS := hide hsz
  clear hsz
  go_enter Tryf.func7, Tryf.ntmps7
  go_wp2_with fail
  refine (zzBytes23 _ _ _ _ _ _ _ _ _ _ _ _ _ _ _ _ _ _ _).mono ?_
  rintro e w1 ⟨b, rfl, rfl⟩
  cases b
  · go_wp2
    go_ret
    exact ⟨rfl, Below.refl _ _⟩
  go_wp2_with fail
  all_goals first | (go_ret; exact ⟨rfl, Below.refl _ _⟩) | (exfalso; have h := unhide HS; omega)

set_option maxHeartbeats 4000000 in
set_option maxRecDepth 100000 in
theorem law7_uneq (a0 a1 a2 a3 a4 a5 : Option Addr) (n0 c0 n1 c1 n2 c2 n3 c3 n4 c4 n5 c5 : Nat) (w : World) (hsz : n0 ≤ 1024 ∧ n1 ≤ 1024 ∧ n2 ≤ 1024 ∧ n3 ≤ 1024 ∧ n4 ≤ 1024 ∧ n5 ≤ 1024) (hne : ¬ (n1 = n0 ∧ n2 = n0 ∧ n3 = n0 ∧ n5 = n4)) :
    Calls Tryf.prog 7 #[.slice a0 n0 c0, .slice a1 n1 c1, .slice a2 n2 c2, .slice a3 n3 c3, .slice a4 n4 c4, .slice a5 n5 c5] w (TrueBelow w) := by
  have HS := hide hne
  clear hne
  go_enter Tryf.func7, Tryf.ntmps7
  go_wp2_with fail
  refine (zzBytes23 _ _ _ _ _ _ _ _ _ _ _ _ _ _ _ _ _ _ _).mono ?_
  rintro e w1 ⟨b, rfl, rfl⟩
  cases b
  · go_wp2
    go_ret
    exact ⟨rfl, Below.refl _ _⟩
  go_wp2_with fail
  all_goals first | (go_ret; exact ⟨rfl, Below.refl _ _⟩) | (exfalso; have h := unhide HS; simp at *; omega)
end Go.Proofs.Qxb6001688aFmt
