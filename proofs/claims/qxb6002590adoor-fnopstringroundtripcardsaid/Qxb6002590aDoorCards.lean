/-
  DERIVED. GIVEN WITH THE SEED: THE CARDS: each row of Qxb6002590aDoorRows.lean that lists a variable, with what it lists TIED to the program's text (the seventh form; the later family's looks); each row that meets fmt, with fmt's text TOLD by the authors' own Lean function (tested against real Go, not proved from fmt's source: count such statements apart). THE CARD IS WHAT COUNTS. Prove the row's statement (the work); the ties are given (Qxb6002590aDoorTie.lean); close each card by the builder's one call (the guide's Derived/Test/ToyasCard.lean, 'card_holds'). Laid BY PROGRAM, IN A SANDBOX (cutbox-door.mjs). By AI agents, Wed Nov 11 2026. No macro, syntax, notation, axiom, sorry.
-/
import Derived.Test.Qxb6002590aDoorRows
import GoSem.ClaimSeven
namespace Go.Proofs.Qxb6002590aDoor
namespace Rows

/-- THE TIED CARD OF 'zzlaws_root_b1.FnOpStringRoundTrip'. -/
def fnOpStringRoundTripCard : Claim7 := { stood := { row := fnOpStringRoundTripRow, standIns := [], harness := (true, "1df10ac5a32e9bbd34a82a7719e224d0bb0905ad1f32b64d0e5f8ca23053a6db"), looks := false }, kinds := [], alts := [], laidByText := true, laidKinds := [.data, .data, .data], laidTests := true, laidLooks := .later }
def FnOpStringRoundTripCardSaid : Prop := Claim7.holds Tryd.pinned (.plain (OpenSpec.ofChange fnOpStringRoundTripSpec)) fnOpStringRoundTripCard
end Rows
end Go.Proofs.Qxb6002590aDoor
