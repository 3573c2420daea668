/-
  No cell of these rows narrows 'for every input' (looked for: loops, veiled, ifaces, maps, wideKeys, modest, calm, conditions, laid).
  DERIVED. THE GIVEN ROWS OF THIS SEAT. 4 by the template 'for every input the law returns true; each argument reads behind the call as it read before'; 0 by the template 'total and deterministic' (their statements: Qxb6002590aTotals.lean).
  GIVEN WITH THE SEED: the statements are not yours to turn. If you find one false, say at which input.
  Laid BY PROGRAM, IN A SANDBOX (cutbox-rows.mjs): the forced cells as the released guide's own fill.sh prints them over the translation 9f99ac64e10992ee… (all of the seat's roots in one cut). By AI agents, Wed Nov 11 2026. No macro, syntax, notation, axiom, sorry.
-/
import Derived.Test.Qxb6002590aChecked
import GoSem.Claim
import GoSem.ClaimJoined
import GoSem.ClaimMapViews
import Derived.JoinedTies
import Derived.KernelRfl
namespace Go.Proofs.Qxb6002590a
/- THE CELL 'sum', in the pinned program and in every row, IS THE sha256 OF THE DUMP (.gsa) THAT Qxb6002590aProg.lean LOADS. Nothing in Lean hashes anything: it is a label: what it is worth is what the hold of that sum in a sandbox is worth. -/
noncomputable def Try.pinned : Pinned := { name := "qxb6002590a", sum := "9f99ac64e10992eee7d7a9f10d32075651f157af9d991827d15f0adc92d3f7ff", checked := Try.checked }
namespace Rows
def none {H : Type} : Left H := { results := [], args := [] }

/-- 'zzlaws_root_b1.FnSpanKeysExact': WHATEVER THE INPUT: true; the input reads as it did. -/
def fnSpanKeysExactSpec : ChangeSpec := { name := "fnSpanKeysExact", fn := fun _ => fun
  | [d1, d2, d3, d4, d5, d6, d7] => { results := [.lit (.bool true)], args := [d1, d2, d3, d4, d5, d6, d7] }
  | _ => none }
def fnSpanKeysExactRow : OpenClaim := { program := "qxb6002590a", sum := "9f99ac64e10992eee7d7a9f10d32075651f157af9d991827d15f0adc92d3f7ff", func := "example.com/leafwise/leafwise/zzlaws_root_b1.FnSpanKeysExact", spec := "fnSpanKeysExact", apart := false }
def FnSpanKeysExactSaid : Prop := fnSpanKeysExactRow.holds Try.pinned (OpenSpec.ofChange fnSpanKeysExactSpec)

/-- ITS FALSE NEIGHBOUR: 'it returns false'. Refute it at one input. -/
def fnSpanKeysExactWrong : ChangeSpec := { name := "fnSpanKeysExact", fn := fun _ => fun
  | [d1, d2, d3, d4, d5, d6, d7] => { results := [.lit (.bool false)], args := [d1, d2, d3, d4, d5, d6, d7] }
  | _ => none }
def FnSpanKeysExactWrongFalsely : Prop := fnSpanKeysExactRow.holds Try.pinned (OpenSpec.ofChange fnSpanKeysExactWrong)

/-- 'zzlaws_root_b1.FnSpanKeysHoldsAdmittedValues': WHATEVER THE INPUT: true; the input reads as it did. -/
def fnSpanKeysHoldsAdmittedValuesSpec : ChangeSpec := { name := "fnSpanKeysHoldsAdmittedValues", fn := fun _ => fun
  | [d1, d2, d3, d4, d5, d6, d7, d8] => { results := [.lit (.bool true)], args := [d1, d2, d3, d4, d5, d6, d7, d8] }
  | _ => none }
def fnSpanKeysHoldsAdmittedValuesRow : OpenClaim := { program := "qxb6002590a", sum := "9f99ac64e10992eee7d7a9f10d32075651f157af9d991827d15f0adc92d3f7ff", func := "example.com/leafwise/leafwise/zzlaws_root_b1.FnSpanKeysHoldsAdmittedValues", spec := "fnSpanKeysHoldsAdmittedValues", apart := false }
def FnSpanKeysHoldsAdmittedValuesSaid : Prop := fnSpanKeysHoldsAdmittedValuesRow.holds Try.pinned (OpenSpec.ofChange fnSpanKeysHoldsAdmittedValuesSpec)

/-- ITS FALSE NEIGHBOUR: 'it returns false'. Refute it at one input. -/
def fnSpanKeysHoldsAdmittedValuesWrong : ChangeSpec := { name := "fnSpanKeysHoldsAdmittedValues", fn := fun _ => fun
  | [d1, d2, d3, d4, d5, d6, d7, d8] => { results := [.lit (.bool false)], args := [d1, d2, d3, d4, d5, d6, d7, d8] }
  | _ => none }
def FnSpanKeysHoldsAdmittedValuesWrongFalsely : Prop := fnSpanKeysHoldsAdmittedValuesRow.holds Try.pinned (OpenSpec.ofChange fnSpanKeysHoldsAdmittedValuesWrong)

/-- 'zzlaws_root_b1.FnServeExact': WHATEVER THE INPUT: true; the input reads as it did. -/
def fnServeExactSpec : ChangeSpec := { name := "fnServeExact", fn := fun _ => fun
  | [d1, d2, d3, d4, d5, d6, d7] => { results := [.lit (.bool true)], args := [d1, d2, d3, d4, d5, d6, d7] }
  | _ => none }
def fnServeExactRow : OpenClaim := { program := "qxb6002590a", sum := "9f99ac64e10992eee7d7a9f10d32075651f157af9d991827d15f0adc92d3f7ff", func := "example.com/leafwise/leafwise/zzlaws_root_b1.FnServeExact", spec := "fnServeExact", apart := false }
def FnServeExactSaid : Prop := fnServeExactRow.holds Try.pinned (OpenSpec.ofChange fnServeExactSpec)

/-- ITS FALSE NEIGHBOUR: 'it returns false'. Refute it at one input. -/
def fnServeExactWrong : ChangeSpec := { name := "fnServeExact", fn := fun _ => fun
  | [d1, d2, d3, d4, d5, d6, d7] => { results := [.lit (.bool false)], args := [d1, d2, d3, d4, d5, d6, d7] }
  | _ => none }
def FnServeExactWrongFalsely : Prop := fnServeExactRow.holds Try.pinned (OpenSpec.ofChange fnServeExactWrong)

/-- 'zzlaws_root_b1.FnServeHoldsRowKeys': WHATEVER THE INPUT: true; the input reads as it did. -/
def fnServeHoldsRowKeysSpec : ChangeSpec := { name := "fnServeHoldsRowKeys", fn := fun _ => fun
  | [d1, d2, d3, d4, d5, d6, d7] => { results := [.lit (.bool true)], args := [d1, d2, d3, d4, d5, d6, d7] }
  | _ => none }
def fnServeHoldsRowKeysRow : OpenClaim := { program := "qxb6002590a", sum := "9f99ac64e10992eee7d7a9f10d32075651f157af9d991827d15f0adc92d3f7ff", func := "example.com/leafwise/leafwise/zzlaws_root_b1.FnServeHoldsRowKeys", spec := "fnServeHoldsRowKeys", apart := false }
def FnServeHoldsRowKeysSaid : Prop := fnServeHoldsRowKeysRow.holds Try.pinned (OpenSpec.ofChange fnServeHoldsRowKeysSpec)

/-- ITS FALSE NEIGHBOUR: 'it returns false'. Refute it at one input. -/
def fnServeHoldsRowKeysWrong : ChangeSpec := { name := "fnServeHoldsRowKeys", fn := fun _ => fun
  | [d1, d2, d3, d4, d5, d6, d7] => { results := [.lit (.bool false)], args := [d1, d2, d3, d4, d5, d6, d7] }
  | _ => none }
def FnServeHoldsRowKeysWrongFalsely : Prop := fnServeHoldsRowKeysRow.holds Try.pinned (OpenSpec.ofChange fnServeHoldsRowKeysWrong)

end Rows
end Go.Proofs.Qxb6002590a
