import Derived.Shelf.Slices.Reverse
import Derived.Shelf.Slices.Cells
import Derived.Test.Qxb6602460aProg
namespace Go.Proofs
open Go.Shelf
def Try.lays112_ren : Go.Shelf.Ren := ⟨fun | 112 => 44 | n => n, fun | 28 => 22 | 3 => 3 | 4 => 4 | 0 => 0 | n => n, fun | n => n⟩
theorem Try.lays112 : Go.Proofs.Lays.n112 Try.prog Try.lays112_ren := {
  mixed := by kernel_rfl
  f112 := Try.func44.trans (congrArg some (by kernel_rfl))
  t0 := Try.underlying0
  a0 := Try.isAgg0
  z0 := Try.sizeOf0
  v0 := Try.zeroValue0
  t3 := Try.underlying3
  a3 := Try.isAgg3
  z3 := Try.sizeOf3
  v3 := Try.zeroValue3
  t4 := Try.underlying4
  a4 := Try.isAgg4
  z4 := Try.sizeOf4
  v4 := Try.zeroValue4
  t28 := Try.underlying22
  a28 := Try.isAgg22
  z28 := Try.sizeOf22
  v28 := Try.zeroValue22 }
open Go.RowKit Go.Lib Go.Sort in
theorem Try.slices_Reverse_int (blk off cap : Nat) (zs : List Int) (w : World) (hH : Holds (Value.int .i64) w blk off zs.toArray) (hsz : zs.length ≤ 9223372036854775807) :
    Calls Try.prog 44 #[.slice (some ⟨blk, off, none⟩) zs.length cap] w fun e w' => e = .returned (.tuple #[]) ∧ ∃ n, w' = putRow (Value.int .i64) (Sort.ahead w n) blk off zs.reverse.toArray := Any.slices_Reverse_int Try.lays112 blk off cap zs w hH hsz
end Go.Proofs
