import Derived.Test.Qxb6002590aDoorShelf
import Derived.WalkKit
import Derived.Lib.Walk
import Derived.RegionTactic
import Derived.BigCall
import Derived.BigGuard
namespace Go.Proofs.Qxb6002590aDoor
open Go.RowKit Go.Sort

def intOf : Value → Int
  | .int _ n => n
  | _ => 0

def acc1 (N : Int) : Nat → Int
  | 0 => 0
  | _ => N
def acc2 (a N : Int) : Nat → Int
  | 0 => 0
  | 1 => a
  | _ => N
def acc3 (a b N : Int) : Nat → Int
  | 0 => 0
  | 1 => a
  | 2 => b
  | _ => N

/-- The op comes back, and the world as it was. -/
def Parsed (N : Nat) (w : World) (e : Ending) (w' : World) : Prop := e = .returned (.tuple #[.int .u8 N, .bool true]) ∧ w = w'
end Go.Proofs.Qxb6002590aDoor
