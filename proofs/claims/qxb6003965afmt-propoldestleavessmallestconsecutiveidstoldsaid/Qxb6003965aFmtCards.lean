/-
  DERIVED. GIVEN WITH THE SEED: THE CARDS: each row of Qxb6003965aFmtRows.lean that lists a variable, with what it lists TIED to the program's text (the seventh form; the later family's looks); each row that meets fmt, with fmt's text TOLD by the authors' own Lean function (tested against real Go, not proved from fmt's source: count such statements apart). THE CARD IS WHAT COUNTS. Prove the row's statement (the work); the ties are given (Qxb6003965aFmtTie.lean); close each card by the builder's one call (the guide's Derived/Test/ToyasCard.lean, 'card_holds'). Laid BY PROGRAM, IN A SANDBOX (cutbox-door.mjs). By AI agents, Wed Nov 11 2026. No macro, syntax, notation, axiom, sorry.
-/
import Derived.Test.Qxb6003965aFmtRows
import GoSem.ClaimSeven
namespace Go.Proofs.Qxb6003965aFmt
namespace Rows

/-- THE TOLD CARD OF 'zzlaws_adversary_c1.PropCheckJoinsExactMostReplacedGreatest'. -/
def propCheckJoinsExactMostReplacedGreatestCard : Claim7 := { stood := { row := propCheckJoinsExactMostReplacedGreatestRow, standIns := [], harness := (true, "e98bffea031ba84e5f302e1318e0e78ad24e24b4a11f4232149ea458bf36e50d"), looks := false }, told := true, goes := false }
def PropCheckJoinsExactMostReplacedGreatestToldSaid : Prop := Claim7.holds Tryf.pinned (.plain (OpenSpec.ofChange propCheckJoinsExactMostReplacedGreatestSpec)) propCheckJoinsExactMostReplacedGreatestCard
/-- ITS FALSE NEIGHBOUR. Refute it at one input. -/
def PropCheckJoinsExactMostReplacedGreatestToldWrongFalsely : Prop := Claim7.holds Tryf.pinned (.plain (OpenSpec.ofChange propCheckJoinsExactMostReplacedGreatestWrong)) propCheckJoinsExactMostReplacedGreatestCard

/-- THE TOLD CARD OF 'zzlaws_adversary_c1.PropOldestLeavesSmallestConsecutiveIDs'. -/
def propOldestLeavesSmallestConsecutiveIDsCard : Claim7 := { stood := { row := propOldestLeavesSmallestConsecutiveIDsRow, standIns := [], harness := (true, "e98bffea031ba84e5f302e1318e0e78ad24e24b4a11f4232149ea458bf36e50d"), looks := false }, told := true, goes := false }
def PropOldestLeavesSmallestConsecutiveIDsToldSaid : Prop := Claim7.holds Tryf.pinned (.plain (OpenSpec.ofChange propOldestLeavesSmallestConsecutiveIDsSpec)) propOldestLeavesSmallestConsecutiveIDsCard
/-- ITS FALSE NEIGHBOUR. Refute it at one input. -/
def PropOldestLeavesSmallestConsecutiveIDsToldWrongFalsely : Prop := Claim7.holds Tryf.pinned (.plain (OpenSpec.ofChange propOldestLeavesSmallestConsecutiveIDsWrong)) propOldestLeavesSmallestConsecutiveIDsCard

/-- THE TOLD CARD OF 'zzlaws_adversary_c1.PropBurstRoundsSizesAndRefusals'. -/
def propBurstRoundsSizesAndRefusalsCard : Claim7 := { stood := { row := propBurstRoundsSizesAndRefusalsRow, standIns := [], harness := (true, "e98bffea031ba84e5f302e1318e0e78ad24e24b4a11f4232149ea458bf36e50d"), looks := false }, told := true, goes := false }
def PropBurstRoundsSizesAndRefusalsToldSaid : Prop := Claim7.holds Tryf.pinned (.plain (OpenSpec.ofChange propBurstRoundsSizesAndRefusalsSpec)) propBurstRoundsSizesAndRefusalsCard
/-- ITS FALSE NEIGHBOUR. Refute it at one input. -/
def PropBurstRoundsSizesAndRefusalsToldWrongFalsely : Prop := Claim7.holds Tryf.pinned (.plain (OpenSpec.ofChange propBurstRoundsSizesAndRefusalsWrong)) propBurstRoundsSizesAndRefusalsCard
end Rows
end Go.Proofs.Qxb6003965aFmt
