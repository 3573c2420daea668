import Derived.Test.Qxb6601328aDoorProg
import Derived.Test.Qxb6601328aDoorBase
namespace Go.Proofs.Qxb6601328aDoor
open Go.RowKit Go.Own

/-- A node's block, its votes cleared. -/
abbrev ndO (c0 c1 s p f col : Int) (d : Bool) : Obj :=
  .cells #[.int .i64 c0, .int .i64 c1, .int .i64 s, .int .i64 p, .int .i64 f, .int .i64 0, .int .i64 0, .int .i64 0, .int .i64 0, .int .u32 0, .int .u8 col, .bool d] 44
abbrev ndV (c0 c1 s p f v0 v1 col : Int) (d : Bool) : Obj :=
  .cells #[.int .i64 c0, .int .i64 c1, .int .i64 s, .int .i64 p, .int .i64 f, .int .i64 v0, .int .i64 v1, .int .i64 0, .int .i64 0, .int .u32 0, .int .u8 col, .bool d] 44
abbrev prO (pr : Int) : Obj := .cells #[.int .u8 pr] 36
abbrev W5 (w : World) (c0 c1 s p f col : Int) (d : Bool) (pr : Int) (A B C : Obj) : World := ((((w.alloc (ndO c0 c1 s p f col d)).alloc (prO pr)).alloc A).alloc B).alloc C

/-- The poll came back with what the node decided; the node and the preference stand as told. -/
def Polled (w : World) (c0 c1 s p f col : Int) (d : Bool) (pr : Int) (e : Ending) (w' : World) : Prop :=
  e = .returned (.bool d) ∧ ∃ A B C j, w' = (W5 w c0 c1 s p f col d pr A B C).drewN j

end Go.Proofs.Qxb6601328aDoor
