/-
  DERIVED. GIVEN WITH THE SEED: THE CARDS: each row of Qxb6001688aFmtRows.lean that lists a variable, with what it lists TIED to the program's text (the seventh form; the later family's looks); each row that meets fmt, with fmt's text TOLD by the authors' own Lean function (tested against real Go, not proved from fmt's source: count such statements apart). THE CARD IS WHAT COUNTS. Prove the row's statement (the work); the ties are given (Qxb6001688aFmtTie.lean); close each card by the builder's one call (the guide's Derived/Test/ToyasCard.lean, 'card_holds'). Laid BY PROGRAM, IN A SANDBOX (cutbox-door.mjs). By AI agents, Wed Nov 11 2026. No macro, syntax, notation, axiom, sorry.
-/
import Derived.Test.Qxb6001688aFmtRows
import GoSem.ClaimSeven
namespace Go.Proofs.Qxb6001688aFmt
namespace Rows

/-- THE TOLD CARD OF 'zzlaws_ctlog_e1.FnHashPathOfConcatenation'. -/
def fnHashPathOfConcatenationCard : Claim7 := { stood := { row := fnHashPathOfConcatenationRow, standIns := [], harness := (true, "20336788cdbe83852259ecd5ad1bbd5a8fc39ed8abd0ee3e95efbc0397785e42"), looks := false }, told := true, goes := false }
def FnHashPathOfConcatenationToldSaid : Prop := Claim7.holds Tryf.pinned (.plain (OpenSpec.ofChange fnHashPathOfConcatenationSpec)) fnHashPathOfConcatenationCard
/-- ITS FALSE NEIGHBOUR. Refute it at one input. -/
def FnHashPathOfConcatenationToldWrongFalsely : Prop := Claim7.holds Tryf.pinned (.plain (OpenSpec.ofChange fnHashPathOfConcatenationWrong)) fnHashPathOfConcatenationCard

/-- THE TOLD CARD OF 'zzlaws_ctv2_e1.FnSTHRoundTrip'. -/
def fnSTHRoundTripCard : Claim7 := { stood := { row := fnSTHRoundTripRow, standIns := [], harness := (true, "20336788cdbe83852259ecd5ad1bbd5a8fc39ed8abd0ee3e95efbc0397785e42"), looks := false }, told := true, goes := false }
def FnSTHRoundTripToldSaid : Prop := Claim7.holds Tryf.pinned (.plain (OpenSpec.ofChange fnSTHRoundTripSpec)) fnSTHRoundTripCard
/-- ITS FALSE NEIGHBOUR. Refute it at one input. -/
def FnSTHRoundTripToldWrongFalsely : Prop := Claim7.holds Tryf.pinned (.plain (OpenSpec.ofChange fnSTHRoundTripWrong)) fnSTHRoundTripCard

/-- THE TOLD CARD OF 'zzlaws_ctv2_e1.FnEntryItemInjective'. -/
def fnEntryItemInjectiveCard : Claim7 := { stood := { row := fnEntryItemInjectiveRow, standIns := [], harness := (true, "20336788cdbe83852259ecd5ad1bbd5a8fc39ed8abd0ee3e95efbc0397785e42"), looks := false }, told := true, goes := false }
def FnEntryItemInjectiveToldSaid : Prop := Claim7.holds Tryf.pinned (.plain (OpenSpec.ofChange fnEntryItemInjectiveSpec)) fnEntryItemInjectiveCard
/-- ITS FALSE NEIGHBOUR. Refute it at one input. -/
def FnEntryItemInjectiveToldWrongFalsely : Prop := Claim7.holds Tryf.pinned (.plain (OpenSpec.ofChange fnEntryItemInjectiveWrong)) fnEntryItemInjectiveCard

/-- THE TOLD CARD OF 'zzlaws_ctv2_e1.FnCheckSCTAcceptsExactly'. -/
def fnCheckSCTAcceptsExactlyCard : Claim7 := { stood := { row := fnCheckSCTAcceptsExactlyRow, standIns := [], harness := (true, "20336788cdbe83852259ecd5ad1bbd5a8fc39ed8abd0ee3e95efbc0397785e42"), looks := false }, told := true, goes := false }
def FnCheckSCTAcceptsExactlyToldSaid : Prop := Claim7.holds Tryf.pinned (.plain (OpenSpec.ofChange fnCheckSCTAcceptsExactlySpec)) fnCheckSCTAcceptsExactlyCard
/-- ITS FALSE NEIGHBOUR. Refute it at one input. -/
def FnCheckSCTAcceptsExactlyToldWrongFalsely : Prop := Claim7.holds Tryf.pinned (.plain (OpenSpec.ofChange fnCheckSCTAcceptsExactlyWrong)) fnCheckSCTAcceptsExactlyCard

/-- THE TOLD CARD OF 'zzlaws_mtc_e1.FnNextConsumesMatchingPrefix'. -/
def fnNextConsumesMatchingPrefixCard : Claim7 := { stood := { row := fnNextConsumesMatchingPrefixRow, standIns := [], harness := (true, "20336788cdbe83852259ecd5ad1bbd5a8fc39ed8abd0ee3e95efbc0397785e42"), looks := false }, told := true, goes := false }
def FnNextConsumesMatchingPrefixToldSaid : Prop := Claim7.holds Tryf.pinned (.plain (OpenSpec.ofChange fnNextConsumesMatchingPrefixSpec)) fnNextConsumesMatchingPrefixCard
/-- ITS FALSE NEIGHBOUR. Refute it at one input. -/
def FnNextConsumesMatchingPrefixToldWrongFalsely : Prop := Claim7.holds Tryf.pinned (.plain (OpenSpec.ofChange fnNextConsumesMatchingPrefixWrong)) fnNextConsumesMatchingPrefixCard

/-- THE TOLD CARD OF 'zzlaws_mtc_e1.FnNextOptionalNeverBoth'. -/
def fnNextOptionalNeverBothCard : Claim7 := { stood := { row := fnNextOptionalNeverBothRow, standIns := [], harness := (true, "20336788cdbe83852259ecd5ad1bbd5a8fc39ed8abd0ee3e95efbc0397785e42"), looks := false }, told := true, goes := false }
def FnNextOptionalNeverBothToldSaid : Prop := Claim7.holds Tryf.pinned (.plain (OpenSpec.ofChange fnNextOptionalNeverBothSpec)) fnNextOptionalNeverBothCard
/-- ITS FALSE NEIGHBOUR. Refute it at one input. -/
def FnNextOptionalNeverBothToldWrongFalsely : Prop := Claim7.holds Tryf.pinned (.plain (OpenSpec.ofChange fnNextOptionalNeverBothWrong)) fnNextOptionalNeverBothCard

/-- THE TOLD CARD OF 'zzlaws_prefixtree_e1.FnRootNeighbourKeysAgree'. -/
def fnRootNeighbourKeysAgreeCard : Claim7 := { stood := { row := fnRootNeighbourKeysAgreeRow, standIns := [], harness := (true, "20336788cdbe83852259ecd5ad1bbd5a8fc39ed8abd0ee3e95efbc0397785e42"), looks := false }, told := true, goes := false }
def FnRootNeighbourKeysAgreeToldSaid : Prop := Claim7.holds Tryf.pinned (.plain (OpenSpec.ofChange fnRootNeighbourKeysAgreeSpec)) fnRootNeighbourKeysAgreeCard
/-- ITS FALSE NEIGHBOUR. Refute it at one input. -/
def FnRootNeighbourKeysAgreeToldWrongFalsely : Prop := Claim7.holds Tryf.pinned (.plain (OpenSpec.ofChange fnRootNeighbourKeysAgreeWrong)) fnRootNeighbourKeysAgreeCard
end Rows
end Go.Proofs.Qxb6001688aFmt
