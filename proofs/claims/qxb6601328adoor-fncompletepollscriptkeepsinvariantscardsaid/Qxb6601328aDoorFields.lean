import Derived.Test.Qxb6601328aDoorNode
import Derived.Deep.DeepCutAuto
import Derived.Deep.CutBlock
import Derived.Deep.RegionHeld3
import Derived.Deep.DrawnRows
namespace Go.Proofs.Qxb6601328aDoor
open Go.RowKit Go.Own
attribute [local go_sem ↓] Go.wp_at_zero Go.wp_at_succ

theorem own2 {w : World} {b i : Nat} {v : Value} {o1 o2 : Obj} (h : w.cell? ⟨b, i, Option.none⟩ = some v) : ((w.alloc o1).alloc o2).drew.cell? ⟨b, i, Option.none⟩ = some v :=
  cell_below ((((Below.refl _ _).alloc (Nat.le_refl _) o1).alloc (by simp) o2).drew) h

def Gives9 (v : Value) (w : World) (e : Ending) (w' : World) : Prop := e = .returned v ∧ Below w.heap.size w w'
set_option maxHeartbeats 4000000 in
theorem fields9 (c0 c1 s p f col : Int) (d : Bool) (b : Nat) (w : World)
    (k0 : w.cell? ⟨b, 0, Option.none⟩ = some (.int .i64 c0)) (k1 : w.cell? ⟨b, 1, Option.none⟩ = some (.int .i64 c1)) (k2 : w.cell? ⟨b, 2, Option.none⟩ = some (.int .i64 s)) (k3 : w.cell? ⟨b, 3, Option.none⟩ = some (.int .i64 p)) (k4 : w.cell? ⟨b, 4, Option.none⟩ = some (.int .i64 f)) (k5 : w.cell? ⟨b, 5, Option.none⟩ = some (.int .i64 0)) (k6 : w.cell? ⟨b, 6, Option.none⟩ = some (.int .i64 0)) (k7 : w.cell? ⟨b, 7, Option.none⟩ = some (.int .i64 0)) (k8 : w.cell? ⟨b, 8, Option.none⟩ = some (.int .i64 0)) (k9 : w.cell? ⟨b, 9, Option.none⟩ = some (.int .u32 0)) (k10 : w.cell? ⟨b, 10, Option.none⟩ = some (.int .u8 col)) (k11 : w.cell? ⟨b, 11, Option.none⟩ = some (.bool d)) :
    Calls Tryd.prog 9 #[.pointer (some ⟨b, 0, Option.none⟩)] w (Gives9 (.tuple #[.agg #[.int .i64 c0, .int .i64 c1], .int .i64 s, .int .i64 p, .int .i64 f, .agg #[.int .i64 0, .int .i64 0], .int .i64 0, .int .i64 0, .int .u32 0, .int .u8 col, .bool d]) w) := by
  have hlt := cell_lt k0
  go_enter Tryd.func9, Tryd.ntmps9
  go_wp2_with fail
  go_region_held3 (fun w' => w'.cell? ⟨b, 0, Option.none⟩ = some (.int .i64 c0) ∧ w'.cell? ⟨b, 1, Option.none⟩ = some (.int .i64 c1) ∧ w'.cell? ⟨b, 2, Option.none⟩ = some (.int .i64 s) ∧ w'.cell? ⟨b, 3, Option.none⟩ = some (.int .i64 p) ∧ w'.cell? ⟨b, 4, Option.none⟩ = some (.int .i64 f) ∧ w'.cell? ⟨b, 5, Option.none⟩ = some (.int .i64 0) ∧ w'.cell? ⟨b, 6, Option.none⟩ = some (.int .i64 0) ∧ w'.cell? ⟨b, 7, Option.none⟩ = some (.int .i64 0) ∧ w'.cell? ⟨b, 8, Option.none⟩ = some (.int .i64 0) ∧ w'.cell? ⟨b, 9, Option.none⟩ = some (.int .u32 0) ∧ w'.cell? ⟨b, 10, Option.none⟩ = some (.int .u8 col) ∧ w'.cell? ⟨b, 11, Option.none⟩ = some (.bool d))
    (first | with_reducible exact ⟨own2 k0, own2 k1, own2 k2, own2 k3, own2 k4, own2 k5, own2 k6, own2 k7, own2 k8, own2 k9, own2 k10, own2 k11⟩ | go_keep)
    (fail)
  all_goals
    go_wp2
    exact bodyPost_ret (v := .tuple #[.agg #[.int .i64 c0, .int .i64 c1], .int .i64 s, .int .i64 p, .int .i64 f, .agg #[.int .i64 0, .int .i64 0], .int .i64 0, .int .i64 0, .int .u32 0, .int .u8 col, .bool d]) (by simp [results, Tryd.results9, go_sem]) rfl ⟨rfl, (((Below.refl _ _).alloc (Nat.le_refl _) _).alloc (by simp) _).drew⟩
end Go.Proofs.Qxb6601328aDoor
