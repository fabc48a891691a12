/-
  DERIVED. GIVEN WITH THE SEED: THE CARDS: each row of Qxb6603729aDoorRows.lean that lists a variable, with what it lists TIED to the program's text (the seventh form; the later family's looks); each row that meets fmt, with fmt's text TOLD by the authors' own Lean function (tested against real Go, not proved from fmt's source: count such statements apart). THE CARD IS WHAT COUNTS. Prove the row's statement (the work); the ties are given (Qxb6603729aDoorTie.lean); close each card by the builder's one call (the guide's Derived/Test/ToyasCard.lean, 'card_holds'). Laid BY PROGRAM, IN A SANDBOX (cutbox-door.mjs). By AI agents, Wed Nov 11 2026. No macro, syntax, notation, axiom, sorry.
-/
import Derived.Test.Qxb6603729aDoorRows
import GoSem.ClaimSeven
namespace Go.Proofs.Qxb6603729aDoor
namespace Rows

/-- THE TIED CARD OF 'zzlaws_internal_record_b1.FnArrayIndexRoundTrip'. -/
def fnArrayIndexRoundTripCard : Claim7 := { stood := { row := fnArrayIndexRoundTripRow, standIns := [], harness := (true, "b9c30a7ac5db618e2ae34e7d05aa13d8532a1cae09862780cefc9a2cd5513b28"), looks := true }, kinds := [], alts := [], laidByText := true, laidKinds := [.data, .data, .data, .called, .called], laidTests := true, laidLooks := .later }
def FnArrayIndexRoundTripCardSaid : Prop := Claim7.holds Tryd.pinned (.plain (OpenSpec.ofChange fnArrayIndexRoundTripSpec)) fnArrayIndexRoundTripCard

/-- THE TIED CARD OF 'zzlaws_internal_record_b1.FnArrayIndexMatchesDecimalModel'. -/
def fnArrayIndexMatchesDecimalModelCard : Claim7 := { stood := { row := fnArrayIndexMatchesDecimalModelRow, standIns := [], harness := (true, "b9c30a7ac5db618e2ae34e7d05aa13d8532a1cae09862780cefc9a2cd5513b28"), looks := true }, kinds := [], alts := [], laidByText := true, laidKinds := [.data, .data, .data, .called, .called], laidTests := true, laidLooks := .later }
def FnArrayIndexMatchesDecimalModelCardSaid : Prop := Claim7.holds Tryd.pinned (.plain (OpenSpec.ofChange fnArrayIndexMatchesDecimalModelSpec)) fnArrayIndexMatchesDecimalModelCard
end Rows
end Go.Proofs.Qxb6603729aDoor
