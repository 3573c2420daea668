import Derived.Test.Qxb6601328aDoorPoll
import Derived.Deep.DeepCutAuto
import Derived.Deep.CutBlock
import Derived.Deep.RegionHeld3
import Derived.Deep.DrawnRows
namespace Go.Proofs.Qxb6601328aDoor
open Go.RowKit Go.Own

def SomeBool (w : World) (e : Ending) (w' : World) : Prop := ∃ b, e = .returned (.bool b) ∧ w = w'

theorem zzBytes4 (x0 x1 x2 x3 x4 : Int) (a : Option Addr) (n c : Nat) (w : World) :
    Calls Tryd.prog 4 #[.int .u8 x0, .int .i64 x1, .int .i64 x2, .int .i64 x3, .int .u8 x4, .slice a n c] w (SomeBool w) := by
  go_enter Tryd.func4, Tryd.ntmps4
  go_wp2
  all_goals (go_ret; exact ⟨_, rfl, rfl⟩)

def Gives (v : Value) (w : World) (e : Ending) (w' : World) : Prop := e = .returned v ∧ Below w.heap.size w w'

theorem params5 (x0 x1 x2 x3 : Int) (w : World) :
    Calls Tryd.prog 5 #[.int .u8 x0, .int .i64 0, .int .i64 x1, .int .i64 x2, .int .i64 x3, .int .i64 0, .int .u8 0, .int .i64 0] w (Gives (.agg #[.int .u8 x0, .int .i64 0, .int .i64 x1, .int .i64 x2, .int .i64 x3, .int .i64 0, .int .u8 0, .int .i64 0]) w) := by
  go_enter Tryd.func5, Tryd.ntmps5
  go_wp2
  exact bodyPost_ret (v := .agg #[.int .u8 x0, .int .i64 0, .int .i64 x1, .int .i64 x2, .int .i64 x3, .int .i64 0, .int .u8 0, .int .i64 0]) (by simp [results, Tryd.results5, go_sem]) rfl ⟨rfl, (Below.refl _ _).alloc (Nat.le_refl _) _⟩

def Made6 (o : Obj) (w : World) (e : Ending) (w' : World) : Prop := ∃ X Y, e = .returned (.pointer (some ⟨((w.alloc X).alloc Y).heap.size, 0, Option.none⟩)) ∧ w' = ((w.alloc X).alloc Y).alloc o

theorem new6 (c0 c1 s p f v0 v1 col : Int) (d : Bool) (w : World) :
    Calls Tryd.prog 6 #[.agg #[.int .i64 c0, .int .i64 c1], .int .i64 s, .int .i64 p, .int .i64 f, .agg #[.int .i64 v0, .int .i64 v1], .int .i64 0, .int .i64 0, .int .u32 0, .int .u8 col, .bool d] w (Made6 (ndV c0 c1 s p f v0 v1 col d) w) := by
  go_enter Tryd.func6, Tryd.ntmps6
  go_wp2
  go_ret
  exact ⟨_, _, by simp, rfl⟩

theorem of8 (c0 c1 s p f col : Int) (d : Bool) (w : World) :
    Calls Tryd.prog 8 #[.agg #[.int .i64 c0, .int .i64 c1], .int .i64 s, .int .i64 p, .int .i64 f, .agg #[.int .i64 0, .int .i64 0], .int .i64 0, .int .i64 0, .int .u32 0, .int .u8 col, .bool d] w
      (Gives (.agg #[.int .i64 c0, .int .i64 c1, .int .i64 s, .int .i64 p, .int .i64 f, .int .i64 0, .int .i64 0, .int .i64 0, .int .i64 0, .int .u32 0, .int .u8 col, .bool d]) w) := by
  go_enter Tryd.func8, Tryd.ntmps8
  go_wp2
  exact bodyPost_ret (v := .agg #[.int .i64 c0, .int .i64 c1, .int .i64 s, .int .i64 p, .int .i64 f, .int .i64 0, .int .i64 0, .int .i64 0, .int .i64 0, .int .u32 0, .int .u8 col, .bool d]) (by simp [results, Tryd.results8, go_sem]) rfl ⟨rfl, (((Below.refl _ _).alloc (Nat.le_refl _) _).alloc (by first | (simp; done) | (simp; omega)) _).alloc (by first | (simp; done) | (simp; omega)) _⟩

def GivesSame (v : Value) (w : World) (e : Ending) (w' : World) : Prop := e = .returned v ∧ w = w'

theorem outcome10 (v0 v1 alpha : Int) (w : World) : Calls Tryd.prog 10 #[.int .i64 v0, .int .i64 v1, .int .i64 alpha] w (GivesSame (.int .u8 (outc v0 v1 alpha)) w) := by
  by_cases hv : v0 < v1
  · have q1 : decide (v1 ≤ v0) = false := by simp; omega
    by_cases ho : alpha ≤ v1
    · rw [show outc v0 v1 alpha = 1 by unfold outc; rw [if_pos hv, if_pos ho]]
      have q2 : decide (alpha ≤ v1) = true := by simp; omega
      clear hv ho
      go_enter Tryd.func10, Tryd.ntmps10
      go_wp2
      go_ret
      exact ⟨rfl, rfl⟩
    · rw [show outc v0 v1 alpha = 2 by unfold outc; rw [if_pos hv, if_neg ho]]
      have q2 : decide (alpha ≤ v1) = false := by simp; omega
      clear hv ho
      go_enter Tryd.func10, Tryd.ntmps10
      go_wp2
      go_ret
      exact ⟨rfl, rfl⟩
  · have q1 : decide (v1 ≤ v0) = true := by simp; omega
    by_cases ho : alpha ≤ v0
    · rw [show outc v0 v1 alpha = 0 by unfold outc; rw [if_neg hv, if_pos ho]]
      have q2 : decide (alpha ≤ v0) = true := by simp; omega
      clear hv ho
      go_enter Tryd.func10, Tryd.ntmps10
      go_wp2
      go_ret
      exact ⟨rfl, rfl⟩
    · rw [show outc v0 v1 alpha = 2 by unfold outc; rw [if_neg hv, if_neg ho]]
      have q2 : decide (alpha ≤ v0) = false := by simp; omega
      clear hv ho
      go_enter Tryd.func10, Tryd.ntmps10
      go_wp2
      go_ret
      exact ⟨rfl, rfl⟩
end Go.Proofs.Qxb6601328aDoor
