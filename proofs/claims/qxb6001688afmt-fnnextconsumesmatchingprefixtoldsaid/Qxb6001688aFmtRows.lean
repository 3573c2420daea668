/-
  No cell of these rows narrows 'for every input' (looked for: loops, veiled, ifaces, maps, wideKeys, modest, calm, conditions, laid).
  DERIVED. THE GIVEN ROWS OF THIS SEAT. 7 by the template 'for every input the law returns true; each argument reads behind the call as it read before'; 0 by the template 'total and deterministic' (their statements: Qxb6001688aFmtTotals.lean).
  GIVEN WITH THE SEED: the statements are not yours to turn. If you find one false, say at which input.
  Laid BY PROGRAM, IN A SANDBOX (cutbox-rows.mjs): the forced cells as the released guide's own fill.sh prints them over the translation 140a0c5238f98bf1… (all of the seat's roots in one cut). By AI agents, Wed Nov 11 2026. No macro, syntax, notation, axiom, sorry.
-/
import Derived.Test.Qxb6001688aFmtChecked
import GoSem.Claim
import GoSem.ClaimJoined
import GoSem.ClaimMapViews
import Derived.JoinedTies
import Derived.KernelRfl
namespace Go.Proofs.Qxb6001688aFmt
/- THE CELL 'sum', in the pinned program and in every row, IS THE sha256 OF THE DUMP (.gsa) THAT Qxb6001688aFmtProg.lean LOADS. Nothing in Lean hashes anything: it is a label: what it is worth is what the hold of that sum in a sandbox is worth. -/
noncomputable def Tryf.pinned : Pinned := { name := "qxb6001688afmt", sum := "140a0c5238f98bf1796c227dd4f73976ef33a27f288b20ae7b3ba96c49a8765e", checked := Tryf.checked }
namespace Rows
def none {H : Type} : Left H := { results := [], args := [] }

/-- 'zzlaws_ctlog_e1.FnHashPathOfConcatenation': WHATEVER THE INPUT: true; the input reads as it did. -/
def fnHashPathOfConcatenationSpec : ChangeSpec := { name := "fnHashPathOfConcatenation", fn := fun _ => fun
  | [d1, d2] => { results := [.lit (.bool true)], args := [d1, d2] }
  | _ => none }
def fnHashPathOfConcatenationRow : OpenClaim := { program := "qxb6001688afmt", sum := "140a0c5238f98bf1796c227dd4f73976ef33a27f288b20ae7b3ba96c49a8765e", func := "example.com/tallytree/tallytree/zzlaws_ctlog_e1.FnHashPathOfConcatenation", spec := "fnHashPathOfConcatenation", stops := ["fmt.errorf", "fmt.Sprintf"], inPlace := ["fmt.errorf"], apart := false }
/-- NO THEOREM (fmt's text is open here; it may be false): for the released tool's asking of the row's closed facts alone. THE STATEMENT IS 'FnHashPathOfConcatenationToldSaid' (Qxb6001688aFmtCards.lean). -/
def FnHashPathOfConcatenationFormAsk : Prop := fnHashPathOfConcatenationRow.holds Tryf.pinned (OpenSpec.ofChange fnHashPathOfConcatenationSpec)

/-- ITS FALSE NEIGHBOUR: 'it returns false'. Refute it at one input. -/
def fnHashPathOfConcatenationWrong : ChangeSpec := { name := "fnHashPathOfConcatenation", fn := fun _ => fun
  | [d1, d2] => { results := [.lit (.bool false)], args := [d1, d2] }
  | _ => none }
def FnHashPathOfConcatenationWrongFormAsk : Prop := fnHashPathOfConcatenationRow.holds Tryf.pinned (OpenSpec.ofChange fnHashPathOfConcatenationWrong)

/-- 'zzlaws_ctv2_e1.FnSTHRoundTrip': WHATEVER THE INPUT: true; the input reads as it did. -/
def fnSTHRoundTripSpec : ChangeSpec := { name := "fnSTHRoundTrip", fn := fun _ => fun
  | [d1, d2, d3, d4, d5, d6, d7, d8] => { results := [.lit (.bool true)], args := [d1, d2, d3, d4, d5, d6, d7, d8] }
  | _ => none }
def fnSTHRoundTripRow : OpenClaim := { program := "qxb6001688afmt", sum := "140a0c5238f98bf1796c227dd4f73976ef33a27f288b20ae7b3ba96c49a8765e", func := "example.com/tallytree/tallytree/zzlaws_ctv2_e1.FnSTHRoundTrip", spec := "fnSTHRoundTrip", stops := ["fmt.errorf", "fmt.Sprintf"], inPlace := ["fmt.Sprintf", "fmt.errorf"], named := ["encoding/binary.BigEndian"], apart := false }
/-- NO THEOREM (fmt's text is open here; it may be false): for the released tool's asking of the row's closed facts alone. THE STATEMENT IS 'FnSTHRoundTripToldSaid' (Qxb6001688aFmtCards.lean). -/
def FnSTHRoundTripFormAsk : Prop := fnSTHRoundTripRow.holds Tryf.pinned (OpenSpec.ofChange fnSTHRoundTripSpec)

/-- ITS FALSE NEIGHBOUR: 'it returns false'. Refute it at one input. -/
def fnSTHRoundTripWrong : ChangeSpec := { name := "fnSTHRoundTrip", fn := fun _ => fun
  | [d1, d2, d3, d4, d5, d6, d7, d8] => { results := [.lit (.bool false)], args := [d1, d2, d3, d4, d5, d6, d7, d8] }
  | _ => none }
def FnSTHRoundTripWrongFormAsk : Prop := fnSTHRoundTripRow.holds Tryf.pinned (OpenSpec.ofChange fnSTHRoundTripWrong)

/-- 'zzlaws_ctv2_e1.FnEntryItemInjective': WHATEVER THE INPUT: true; the input reads as it did. -/
def fnEntryItemInjectiveSpec : ChangeSpec := { name := "fnEntryItemInjective", fn := fun _ => fun
  | [d1, d2, d3, d4, d5, d6, d7, d8] => { results := [.lit (.bool true)], args := [d1, d2, d3, d4, d5, d6, d7, d8] }
  | _ => none }
def fnEntryItemInjectiveRow : OpenClaim := { program := "qxb6001688afmt", sum := "140a0c5238f98bf1796c227dd4f73976ef33a27f288b20ae7b3ba96c49a8765e", func := "example.com/tallytree/tallytree/zzlaws_ctv2_e1.FnEntryItemInjective", spec := "fnEntryItemInjective", stops := ["fmt.errorf", "fmt.Sprintf"], inPlace := ["fmt.Sprintf", "fmt.errorf"], named := ["encoding/binary.BigEndian"], apart := false }
/-- NO THEOREM (fmt's text is open here; it may be false): for the released tool's asking of the row's closed facts alone. THE STATEMENT IS 'FnEntryItemInjectiveToldSaid' (Qxb6001688aFmtCards.lean). -/
def FnEntryItemInjectiveFormAsk : Prop := fnEntryItemInjectiveRow.holds Tryf.pinned (OpenSpec.ofChange fnEntryItemInjectiveSpec)

/-- ITS FALSE NEIGHBOUR: 'it returns false'. Refute it at one input. -/
def fnEntryItemInjectiveWrong : ChangeSpec := { name := "fnEntryItemInjective", fn := fun _ => fun
  | [d1, d2, d3, d4, d5, d6, d7, d8] => { results := [.lit (.bool false)], args := [d1, d2, d3, d4, d5, d6, d7, d8] }
  | _ => none }
def FnEntryItemInjectiveWrongFormAsk : Prop := fnEntryItemInjectiveRow.holds Tryf.pinned (OpenSpec.ofChange fnEntryItemInjectiveWrong)

/-- 'zzlaws_ctv2_e1.FnCheckSCTAcceptsExactly': WHATEVER THE INPUT: true; the input reads as it did. -/
def fnCheckSCTAcceptsExactlySpec : ChangeSpec := { name := "fnCheckSCTAcceptsExactly", fn := fun _ => fun
  | [d1, d2] => { results := [.lit (.bool true)], args := [d1, d2] }
  | _ => none }
def fnCheckSCTAcceptsExactlyRow : OpenClaim := { program := "qxb6001688afmt", sum := "140a0c5238f98bf1796c227dd4f73976ef33a27f288b20ae7b3ba96c49a8765e", func := "example.com/tallytree/tallytree/zzlaws_ctv2_e1.FnCheckSCTAcceptsExactly", spec := "fnCheckSCTAcceptsExactly", stops := ["fmt.errorf", "fmt.Sprintf"], inPlace := ["fmt.errorf", "fmt.Sprintf"], named := ["encoding/binary.BigEndian"], apart := false }
/-- NO THEOREM (fmt's text is open here; it may be false): for the released tool's asking of the row's closed facts alone. THE STATEMENT IS 'FnCheckSCTAcceptsExactlyToldSaid' (Qxb6001688aFmtCards.lean). -/
def FnCheckSCTAcceptsExactlyFormAsk : Prop := fnCheckSCTAcceptsExactlyRow.holds Tryf.pinned (OpenSpec.ofChange fnCheckSCTAcceptsExactlySpec)

/-- ITS FALSE NEIGHBOUR: 'it returns false'. Refute it at one input. -/
def fnCheckSCTAcceptsExactlyWrong : ChangeSpec := { name := "fnCheckSCTAcceptsExactly", fn := fun _ => fun
  | [d1, d2] => { results := [.lit (.bool false)], args := [d1, d2] }
  | _ => none }
def FnCheckSCTAcceptsExactlyWrongFormAsk : Prop := fnCheckSCTAcceptsExactlyRow.holds Tryf.pinned (OpenSpec.ofChange fnCheckSCTAcceptsExactlyWrong)

/-- 'zzlaws_mtc_e1.FnNextConsumesMatchingPrefix': WHATEVER THE INPUT: true; the input reads as it did. -/
def fnNextConsumesMatchingPrefixSpec : ChangeSpec := { name := "fnNextConsumesMatchingPrefix", fn := fun _ => fun
  | [d1, d2, d3, d4, d5, d6] => { results := [.lit (.bool true)], args := [d1, d2, d3, d4, d5, d6] }
  | _ => none }
def fnNextConsumesMatchingPrefixRow : OpenClaim := { program := "qxb6001688afmt", sum := "140a0c5238f98bf1796c227dd4f73976ef33a27f288b20ae7b3ba96c49a8765e", func := "example.com/tallytree/tallytree/zzlaws_mtc_e1.FnNextConsumesMatchingPrefix", spec := "fnNextConsumesMatchingPrefix", stops := ["fmt.errorf", "fmt.Sprintf"], inPlace := ["fmt.errorf"], apart := false }
/-- NO THEOREM (fmt's text is open here; it may be false): for the released tool's asking of the row's closed facts alone. THE STATEMENT IS 'FnNextConsumesMatchingPrefixToldSaid' (Qxb6001688aFmtCards.lean). -/
def FnNextConsumesMatchingPrefixFormAsk : Prop := fnNextConsumesMatchingPrefixRow.holds Tryf.pinned (OpenSpec.ofChange fnNextConsumesMatchingPrefixSpec)

/-- ITS FALSE NEIGHBOUR: 'it returns false'. Refute it at one input. -/
def fnNextConsumesMatchingPrefixWrong : ChangeSpec := { name := "fnNextConsumesMatchingPrefix", fn := fun _ => fun
  | [d1, d2, d3, d4, d5, d6] => { results := [.lit (.bool false)], args := [d1, d2, d3, d4, d5, d6] }
  | _ => none }
def FnNextConsumesMatchingPrefixWrongFormAsk : Prop := fnNextConsumesMatchingPrefixRow.holds Tryf.pinned (OpenSpec.ofChange fnNextConsumesMatchingPrefixWrong)

/-- 'zzlaws_mtc_e1.FnNextOptionalNeverBoth': WHATEVER THE INPUT: true; the input reads as it did. -/
def fnNextOptionalNeverBothSpec : ChangeSpec := { name := "fnNextOptionalNeverBoth", fn := fun _ => fun
  | [d1, d2, d3, d4, d5, d6, d7, d8] => { results := [.lit (.bool true)], args := [d1, d2, d3, d4, d5, d6, d7, d8] }
  | _ => none }
def fnNextOptionalNeverBothRow : OpenClaim := { program := "qxb6001688afmt", sum := "140a0c5238f98bf1796c227dd4f73976ef33a27f288b20ae7b3ba96c49a8765e", func := "example.com/tallytree/tallytree/zzlaws_mtc_e1.FnNextOptionalNeverBoth", spec := "fnNextOptionalNeverBoth", stops := ["fmt.errorf", "fmt.Sprintf"], inPlace := ["fmt.errorf"], apart := false }
/-- NO THEOREM (fmt's text is open here; it may be false): for the released tool's asking of the row's closed facts alone. THE STATEMENT IS 'FnNextOptionalNeverBothToldSaid' (Qxb6001688aFmtCards.lean). -/
def FnNextOptionalNeverBothFormAsk : Prop := fnNextOptionalNeverBothRow.holds Tryf.pinned (OpenSpec.ofChange fnNextOptionalNeverBothSpec)

/-- ITS FALSE NEIGHBOUR: 'it returns false'. Refute it at one input. -/
def fnNextOptionalNeverBothWrong : ChangeSpec := { name := "fnNextOptionalNeverBoth", fn := fun _ => fun
  | [d1, d2, d3, d4, d5, d6, d7, d8] => { results := [.lit (.bool false)], args := [d1, d2, d3, d4, d5, d6, d7, d8] }
  | _ => none }
def FnNextOptionalNeverBothWrongFormAsk : Prop := fnNextOptionalNeverBothRow.holds Tryf.pinned (OpenSpec.ofChange fnNextOptionalNeverBothWrong)

/-- 'zzlaws_prefixtree_e1.FnRootNeighbourKeysAgree': WHATEVER THE INPUT: true; the input reads as it did. -/
def fnRootNeighbourKeysAgreeSpec : ChangeSpec := { name := "fnRootNeighbourKeysAgree", fn := fun _ => fun
  | [d1, d2, d3, d4, d5, d6] => { results := [.lit (.bool true)], args := [d1, d2, d3, d4, d5, d6] }
  | _ => none }
def fnRootNeighbourKeysAgreeRow : OpenClaim := { program := "qxb6001688afmt", sum := "140a0c5238f98bf1796c227dd4f73976ef33a27f288b20ae7b3ba96c49a8765e", func := "example.com/tallytree/tallytree/zzlaws_prefixtree_e1.FnRootNeighbourKeysAgree", spec := "fnRootNeighbourKeysAgree", stops := ["fmt.errorf", "fmt.Sprintf"], inPlace := ["fmt.errorf"], unfollowed := true, recurses := true, named := ["encoding/binary.BigEndian"], apart := false }
/-- NO THEOREM (fmt's text is open here; it may be false): for the released tool's asking of the row's closed facts alone. THE STATEMENT IS 'FnRootNeighbourKeysAgreeToldSaid' (Qxb6001688aFmtCards.lean). -/
def FnRootNeighbourKeysAgreeFormAsk : Prop := fnRootNeighbourKeysAgreeRow.holds Tryf.pinned (OpenSpec.ofChange fnRootNeighbourKeysAgreeSpec)

/-- ITS FALSE NEIGHBOUR: 'it returns false'. Refute it at one input. -/
def fnRootNeighbourKeysAgreeWrong : ChangeSpec := { name := "fnRootNeighbourKeysAgree", fn := fun _ => fun
  | [d1, d2, d3, d4, d5, d6] => { results := [.lit (.bool false)], args := [d1, d2, d3, d4, d5, d6] }
  | _ => none }
def FnRootNeighbourKeysAgreeWrongFormAsk : Prop := fnRootNeighbourKeysAgreeRow.holds Tryf.pinned (OpenSpec.ofChange fnRootNeighbourKeysAgreeWrong)

end Rows
end Go.Proofs.Qxb6001688aFmt
