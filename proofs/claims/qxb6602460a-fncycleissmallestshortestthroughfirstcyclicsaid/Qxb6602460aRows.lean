/-
  No cell of these rows narrows 'for every input' (looked for: loops, veiled, ifaces, maps, wideKeys, modest, calm, conditions, laid).
  DERIVED. THE GIVEN ROWS OF THIS SEAT. 6 by the template 'for every input the law returns true; each argument reads behind the call as it read before'; 0 by the template 'total and deterministic' (their statements: Qxb6602460aTotals.lean).
  GIVEN WITH THE SEED: the statements are not yours to turn. If you find one false, say at which input.
  Laid BY PROGRAM, IN A SANDBOX (cutbox-rows.mjs): the forced cells as the released guide's own fill.sh prints them over the translation 77825016ecd0c833… (all of the seat's roots in one cut). By AI agents, Wed Nov 11 2026. No macro, syntax, notation, axiom, sorry.
-/
import Derived.Test.Qxb6602460aChecked
import GoSem.Claim
import GoSem.ClaimJoined
import GoSem.ClaimMapViews
import Derived.JoinedTies
import Derived.KernelRfl
namespace Go.Proofs.Qxb6602460a
/- THE CELL 'sum', in the pinned program and in every row, IS THE sha256 OF THE DUMP (.gsa) THAT Qxb6602460aProg.lean LOADS. Nothing in Lean hashes anything: it is a label: what it is worth is what the hold of that sum in a sandbox is worth. -/
noncomputable def Try.pinned : Pinned := { name := "qxb6602460a", sum := "77825016ecd0c8333af242ed8bd0d5ab8812871b37f927f5071b897a769d2e00", checked := Try.checked }
namespace Rows
def none {H : Type} : Left H := { results := [], args := [] }

/-- 'zzlaws_internal_schedule_b1.FnOnCycleMatchesKosaraju': WHATEVER THE INPUT: true; the input reads as it did. -/
def fnOnCycleMatchesKosarajuSpec : ChangeSpec := { name := "fnOnCycleMatchesKosaraju", fn := fun _ => fun
  | [d1, d2] => { results := [.lit (.bool true)], args := [d1, d2] }
  | _ => none }
def fnOnCycleMatchesKosarajuRow : OpenClaim := { program := "qxb6602460a", sum := "77825016ecd0c8333af242ed8bd0d5ab8812871b37f927f5071b897a769d2e00", func := "example.com/serialis/serialis/zzlaws_internal_schedule_b1.FnOnCycleMatchesKosaraju", spec := "fnOnCycleMatchesKosaraju", unfollowed := true, recurses := true, apart := false }
def FnOnCycleMatchesKosarajuSaid : Prop := fnOnCycleMatchesKosarajuRow.holds Try.pinned (OpenSpec.ofChange fnOnCycleMatchesKosarajuSpec)

/-- ITS FALSE NEIGHBOUR: 'it returns false'. Refute it at one input. -/
def fnOnCycleMatchesKosarajuWrong : ChangeSpec := { name := "fnOnCycleMatchesKosaraju", fn := fun _ => fun
  | [d1, d2] => { results := [.lit (.bool false)], args := [d1, d2] }
  | _ => none }
def FnOnCycleMatchesKosarajuWrongFalsely : Prop := fnOnCycleMatchesKosarajuRow.holds Try.pinned (OpenSpec.ofChange fnOnCycleMatchesKosarajuWrong)

/-- 'zzlaws_internal_schedule_b1.FnOnCycleSameOnReversedGraph': WHATEVER THE INPUT: true; the input reads as it did. -/
def fnOnCycleSameOnReversedGraphSpec : ChangeSpec := { name := "fnOnCycleSameOnReversedGraph", fn := fun _ => fun
  | [d1, d2] => { results := [.lit (.bool true)], args := [d1, d2] }
  | _ => none }
def fnOnCycleSameOnReversedGraphRow : OpenClaim := { program := "qxb6602460a", sum := "77825016ecd0c8333af242ed8bd0d5ab8812871b37f927f5071b897a769d2e00", func := "example.com/serialis/serialis/zzlaws_internal_schedule_b1.FnOnCycleSameOnReversedGraph", spec := "fnOnCycleSameOnReversedGraph", unfollowed := true, recurses := true, apart := false }
def FnOnCycleSameOnReversedGraphSaid : Prop := fnOnCycleSameOnReversedGraphRow.holds Try.pinned (OpenSpec.ofChange fnOnCycleSameOnReversedGraphSpec)

/-- ITS FALSE NEIGHBOUR: 'it returns false'. Refute it at one input. -/
def fnOnCycleSameOnReversedGraphWrong : ChangeSpec := { name := "fnOnCycleSameOnReversedGraph", fn := fun _ => fun
  | [d1, d2] => { results := [.lit (.bool false)], args := [d1, d2] }
  | _ => none }
def FnOnCycleSameOnReversedGraphWrongFalsely : Prop := fnOnCycleSameOnReversedGraphRow.holds Try.pinned (OpenSpec.ofChange fnOnCycleSameOnReversedGraphWrong)

/-- 'zzlaws_internal_schedule_b1.FnCycleIsSmallestShortestThroughFirstCyclic': WHATEVER THE INPUT: true; the input reads as it did. -/
def fnCycleIsSmallestShortestThroughFirstCyclicSpec : ChangeSpec := { name := "fnCycleIsSmallestShortestThroughFirstCyclic", fn := fun _ => fun
  | [d1, d2] => { results := [.lit (.bool true)], args := [d1, d2] }
  | _ => none }
def fnCycleIsSmallestShortestThroughFirstCyclicRow : OpenClaim := { program := "qxb6602460a", sum := "77825016ecd0c8333af242ed8bd0d5ab8812871b37f927f5071b897a769d2e00", func := "example.com/serialis/serialis/zzlaws_internal_schedule_b1.FnCycleIsSmallestShortestThroughFirstCyclic", spec := "fnCycleIsSmallestShortestThroughFirstCyclic", unfollowed := true, recurses := true, apart := false }
def FnCycleIsSmallestShortestThroughFirstCyclicSaid : Prop := fnCycleIsSmallestShortestThroughFirstCyclicRow.holds Try.pinned (OpenSpec.ofChange fnCycleIsSmallestShortestThroughFirstCyclicSpec)

/-- ITS FALSE NEIGHBOUR: 'it returns false'. Refute it at one input. -/
def fnCycleIsSmallestShortestThroughFirstCyclicWrong : ChangeSpec := { name := "fnCycleIsSmallestShortestThroughFirstCyclic", fn := fun _ => fun
  | [d1, d2] => { results := [.lit (.bool false)], args := [d1, d2] }
  | _ => none }
def FnCycleIsSmallestShortestThroughFirstCyclicWrongFalsely : Prop := fnCycleIsSmallestShortestThroughFirstCyclicRow.holds Try.pinned (OpenSpec.ofChange fnCycleIsSmallestShortestThroughFirstCyclicWrong)

/-- 'zzlaws_internal_schedule_b1.FnCycleIsSimpleCycleAgreeingWithOnCycle': WHATEVER THE INPUT: true; the input reads as it did. -/
def fnCycleIsSimpleCycleAgreeingWithOnCycleSpec : ChangeSpec := { name := "fnCycleIsSimpleCycleAgreeingWithOnCycle", fn := fun _ => fun
  | [d1, d2] => { results := [.lit (.bool true)], args := [d1, d2] }
  | _ => none }
def fnCycleIsSimpleCycleAgreeingWithOnCycleRow : OpenClaim := { program := "qxb6602460a", sum := "77825016ecd0c8333af242ed8bd0d5ab8812871b37f927f5071b897a769d2e00", func := "example.com/serialis/serialis/zzlaws_internal_schedule_b1.FnCycleIsSimpleCycleAgreeingWithOnCycle", spec := "fnCycleIsSimpleCycleAgreeingWithOnCycle", unfollowed := true, recurses := true, apart := false }
def FnCycleIsSimpleCycleAgreeingWithOnCycleSaid : Prop := fnCycleIsSimpleCycleAgreeingWithOnCycleRow.holds Try.pinned (OpenSpec.ofChange fnCycleIsSimpleCycleAgreeingWithOnCycleSpec)

/-- ITS FALSE NEIGHBOUR: 'it returns false'. Refute it at one input. -/
def fnCycleIsSimpleCycleAgreeingWithOnCycleWrong : ChangeSpec := { name := "fnCycleIsSimpleCycleAgreeingWithOnCycle", fn := fun _ => fun
  | [d1, d2] => { results := [.lit (.bool false)], args := [d1, d2] }
  | _ => none }
def FnCycleIsSimpleCycleAgreeingWithOnCycleWrongFalsely : Prop := fnCycleIsSimpleCycleAgreeingWithOnCycleRow.holds Try.pinned (OpenSpec.ofChange fnCycleIsSimpleCycleAgreeingWithOnCycleWrong)

/-- 'zzlaws_internal_schedule_b1.FnLatestIsLastLiveWriterAndTrimsToIt': WHATEVER THE INPUT: true; the input reads as it did. -/
def fnLatestIsLastLiveWriterAndTrimsToItSpec : ChangeSpec := { name := "fnLatestIsLastLiveWriterAndTrimsToIt", fn := fun _ => fun
  | [d1, d2, d3, d4, d5, d6, d7] => { results := [.lit (.bool true)], args := [d1, d2, d3, d4, d5, d6, d7] }
  | _ => none }
def fnLatestIsLastLiveWriterAndTrimsToItRow : OpenClaim := { program := "qxb6602460a", sum := "77825016ecd0c8333af242ed8bd0d5ab8812871b37f927f5071b897a769d2e00", func := "example.com/serialis/serialis/zzlaws_internal_schedule_b1.FnLatestIsLastLiveWriterAndTrimsToIt", spec := "fnLatestIsLastLiveWriterAndTrimsToIt", apart := false }
def FnLatestIsLastLiveWriterAndTrimsToItSaid : Prop := fnLatestIsLastLiveWriterAndTrimsToItRow.holds Try.pinned (OpenSpec.ofChange fnLatestIsLastLiveWriterAndTrimsToItSpec)

/-- ITS FALSE NEIGHBOUR: 'it returns false'. Refute it at one input. -/
def fnLatestIsLastLiveWriterAndTrimsToItWrong : ChangeSpec := { name := "fnLatestIsLastLiveWriterAndTrimsToIt", fn := fun _ => fun
  | [d1, d2, d3, d4, d5, d6, d7] => { results := [.lit (.bool false)], args := [d1, d2, d3, d4, d5, d6, d7] }
  | _ => none }
def FnLatestIsLastLiveWriterAndTrimsToItWrongFalsely : Prop := fnLatestIsLastLiveWriterAndTrimsToItRow.holds Try.pinned (OpenSpec.ofChange fnLatestIsLastLiveWriterAndTrimsToItWrong)

/-- 'zzlaws_internal_schedule_b1.FnLatestRepeatedReadIsStable': WHATEVER THE INPUT: true; the input reads as it did. -/
def fnLatestRepeatedReadIsStableSpec : ChangeSpec := { name := "fnLatestRepeatedReadIsStable", fn := fun _ => fun
  | [d1, d2, d3, d4, d5, d6, d7] => { results := [.lit (.bool true)], args := [d1, d2, d3, d4, d5, d6, d7] }
  | _ => none }
def fnLatestRepeatedReadIsStableRow : OpenClaim := { program := "qxb6602460a", sum := "77825016ecd0c8333af242ed8bd0d5ab8812871b37f927f5071b897a769d2e00", func := "example.com/serialis/serialis/zzlaws_internal_schedule_b1.FnLatestRepeatedReadIsStable", spec := "fnLatestRepeatedReadIsStable", apart := false }
def FnLatestRepeatedReadIsStableSaid : Prop := fnLatestRepeatedReadIsStableRow.holds Try.pinned (OpenSpec.ofChange fnLatestRepeatedReadIsStableSpec)

/-- ITS FALSE NEIGHBOUR: 'it returns false'. Refute it at one input. -/
def fnLatestRepeatedReadIsStableWrong : ChangeSpec := { name := "fnLatestRepeatedReadIsStable", fn := fun _ => fun
  | [d1, d2, d3, d4, d5, d6, d7] => { results := [.lit (.bool false)], args := [d1, d2, d3, d4, d5, d6, d7] }
  | _ => none }
def FnLatestRepeatedReadIsStableWrongFalsely : Prop := fnLatestRepeatedReadIsStableRow.holds Try.pinned (OpenSpec.ofChange fnLatestRepeatedReadIsStableWrong)

end Rows
end Go.Proofs.Qxb6602460a
