import Derived.Test.Qxb6601328aDoorFacts
namespace Go.Proofs.Qxb6601328aDoor
open Go.RowKit Go.Own

def TrueBelow (w : World) (e : Ending) (w' : World) : Prop := e = .returned (.bool true) ∧ Below w.heap.size w w'

set_option maxHeartbeats 2000000 in
set_option maxRecDepth 100000 in
theorem law3_guard (proto alpha beta rounds pref0 : Int) (a : Option Addr) (n c : Nat) (w : World) (hg : ¬ (n ≤ 65536 ∧ proto ≤ 2 ∧ pref0 ≤ 1)) :
    Calls Tryd.prog 3 #[.int .u8 proto, .int .i64 alpha, .int .i64 beta, .int .i64 rounds, .int .u8 pref0, .slice a n c] w (TrueBelow w) := by
  by_cases h1 : n ≤ 65536
  · have t1 : decide ((65536 : Int) < n) = false := decide_eq_false (by omega)
    by_cases h2 : proto ≤ 2
    · have t2 : decide ((2 : Int) < proto) = false := decide_eq_false (by omega)
      have t3 : decide ((1 : Int) < pref0) = true := decide_eq_true (by omega)
      clear hg h1 h2
      go_enter Tryd.func3, Tryd.ntmps3
      go_wp2_with fail
      refine (zzBytes4 _ _ _ _ _ _ _ _ _).mono ?_
      rintro e w1 ⟨b, rfl, rfl⟩
      cases b
      · go_wp2
        go_ret
        exact ⟨rfl, Below.refl _ _⟩
      · go_wp2
        go_ret
        exact ⟨rfl, Below.refl _ _⟩
    · have t2 : decide ((2 : Int) < proto) = true := decide_eq_true (by omega)
      clear hg h1 h2
      go_enter Tryd.func3, Tryd.ntmps3
      go_wp2_with fail
      refine (zzBytes4 _ _ _ _ _ _ _ _ _).mono ?_
      rintro e w1 ⟨b, rfl, rfl⟩
      cases b
      · go_wp2
        go_ret
        exact ⟨rfl, Below.refl _ _⟩
      · go_wp2
        go_ret
        exact ⟨rfl, Below.refl _ _⟩
  · have t1 : decide ((65536 : Int) < n) = true := decide_eq_true (by omega)
    clear hg h1
    go_enter Tryd.func3, Tryd.ntmps3
    go_wp2_with fail
    refine (zzBytes4 _ _ _ _ _ _ _ _ _).mono ?_
    rintro e w1 ⟨b, rfl, rfl⟩
    cases b
    · go_wp2
      go_ret
      exact ⟨rfl, Below.refl _ _⟩
    · go_wp2
      go_ret
      exact ⟨rfl, Below.refl _ _⟩
end Go.Proofs.Qxb6601328aDoor
