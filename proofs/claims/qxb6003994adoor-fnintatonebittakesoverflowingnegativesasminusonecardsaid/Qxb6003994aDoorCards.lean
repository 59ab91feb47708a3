/-
  DERIVED. GIVEN WITH THE SEED: THE CARDS: each row of Qxb6003994aDoorRows.lean that lists a variable, with what it lists TIED to the program's text (the seventh form; the later family's looks); each row that meets fmt, with fmt's text TOLD by the authors' own Lean function (tested against real Go, not proved from fmt's source: count such statements apart). THE CARD IS WHAT COUNTS. Prove the row's statement (the work); the ties are given (Qxb6003994aDoorTie.lean); close each card by the builder's one call (the guide's Derived/Test/ToyasCard.lean, 'card_holds'). Laid BY PROGRAM, IN A SANDBOX (cutbox-door.mjs). By AI agents, Wed Nov 11 2026. No macro, syntax, notation, axiom, sorry.
-/
import Derived.Test.Qxb6003994aDoorRows
import GoSem.ClaimSeven
namespace Go.Proofs.Qxb6003994aDoor
namespace Rows

/-- THE TIED CARD OF 'zzlaws_internal_decimal_g1.FnUintIsExactlyPlainDecimalBelowPow2'. -/
def fnUintIsExactlyPlainDecimalBelowPow2Card : Claim7 := { stood := { row := fnUintIsExactlyPlainDecimalBelowPow2Row, standIns := [], harness := (true, "174f9acdeaef0baf1e9109e520c0bdae2e4188d7cf54096ed5db3970e17c8d40"), looks := true }, kinds := [], alts := [], laidByText := true, laidKinds := [.data, .data, .data, .sentinel, .sentinel], laidTests := true, laidLooks := .later }
def FnUintIsExactlyPlainDecimalBelowPow2CardSaid : Prop := Claim7.holds Tryd.pinned (.plain (OpenSpec.ofChange fnUintIsExactlyPlainDecimalBelowPow2Spec)) fnUintIsExactlyPlainDecimalBelowPow2Card

/-- THE TIED CARD OF 'zzlaws_internal_decimal_g1.FnIntIsExactlyPlainDecimalInRangeFromTwoBits'. -/
def fnIntIsExactlyPlainDecimalInRangeFromTwoBitsCard : Claim7 := { stood := { row := fnIntIsExactlyPlainDecimalInRangeFromTwoBitsRow, standIns := [], harness := (true, "174f9acdeaef0baf1e9109e520c0bdae2e4188d7cf54096ed5db3970e17c8d40"), looks := true }, kinds := [], alts := [], laidByText := true, laidKinds := [.data, .data, .data, .sentinel, .sentinel], laidTests := true, laidLooks := .later }
def FnIntIsExactlyPlainDecimalInRangeFromTwoBitsCardSaid : Prop := Claim7.holds Tryd.pinned (.plain (OpenSpec.ofChange fnIntIsExactlyPlainDecimalInRangeFromTwoBitsSpec)) fnIntIsExactlyPlainDecimalInRangeFromTwoBitsCard

/-- THE TIED CARD OF 'zzlaws_internal_decimal_g1.FnIntAtOneBitTakesOverflowingNegativesAsMinusOne'. -/
def fnIntAtOneBitTakesOverflowingNegativesAsMinusOneCard : Claim7 := { stood := { row := fnIntAtOneBitTakesOverflowingNegativesAsMinusOneRow, standIns := [], harness := (true, "174f9acdeaef0baf1e9109e520c0bdae2e4188d7cf54096ed5db3970e17c8d40"), looks := true }, kinds := [], alts := [], laidByText := true, laidKinds := [.data, .data, .data, .sentinel, .sentinel], laidTests := true, laidLooks := .later }
def FnIntAtOneBitTakesOverflowingNegativesAsMinusOneCardSaid : Prop := Claim7.holds Tryd.pinned (.plain (OpenSpec.ofChange fnIntAtOneBitTakesOverflowingNegativesAsMinusOneSpec)) fnIntAtOneBitTakesOverflowingNegativesAsMinusOneCard

/-- THE TIED CARD OF 'zzlaws_internal_decimal_g1.FnIntAgreesWithUintOnUnsignedText'. -/
def fnIntAgreesWithUintOnUnsignedTextCard : Claim7 := { stood := { row := fnIntAgreesWithUintOnUnsignedTextRow, standIns := [], harness := (true, "174f9acdeaef0baf1e9109e520c0bdae2e4188d7cf54096ed5db3970e17c8d40"), looks := true }, kinds := [], alts := [], laidByText := true, laidKinds := [.data, .data, .data, .sentinel, .sentinel], laidTests := true, laidLooks := .later }
def FnIntAgreesWithUintOnUnsignedTextCardSaid : Prop := Claim7.holds Tryd.pinned (.plain (OpenSpec.ofChange fnIntAgreesWithUintOnUnsignedTextSpec)) fnIntAgreesWithUintOnUnsignedTextCard
end Rows
end Go.Proofs.Qxb6003994aDoor
