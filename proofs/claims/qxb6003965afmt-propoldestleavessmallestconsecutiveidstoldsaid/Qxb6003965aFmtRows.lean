/-
  No cell of these rows narrows 'for every input' (looked for: loops, veiled, ifaces, maps, wideKeys, modest, calm, conditions, laid).
  DERIVED. THE GIVEN ROWS OF THIS SEAT. 3 by the template 'for every input the law returns true; each argument reads behind the call as it read before'; 0 by the template 'total and deterministic' (their statements: Qxb6003965aFmtTotals.lean).
  GIVEN WITH THE SEED: the statements are not yours to turn. If you find one false, say at which input.
  Laid BY PROGRAM, IN A SANDBOX (cutbox-rows.mjs): the forced cells as the released guide's own fill.sh prints them over the translation e84fb8157de611f8… (all of the seat's roots in one cut). By AI agents, Wed Nov 11 2026. No macro, syntax, notation, axiom, sorry.
-/
import Derived.Test.Qxb6003965aFmtChecked
import GoSem.Claim
import GoSem.ClaimJoined
import GoSem.ClaimMapViews
import Derived.JoinedTies
import Derived.KernelRfl
namespace Go.Proofs.Qxb6003965aFmt
/- THE CELL 'sum', in the pinned program and in every row, IS THE sha256 OF THE DUMP (.gsa) THAT Qxb6003965aFmtProg.lean LOADS. Nothing in Lean hashes anything: it is a label: what it is worth is what the hold of that sum in a sandbox is worth. -/
noncomputable def Tryf.pinned : Pinned := { name := "qxb6003965afmt", sum := "e84fb8157de611f86f31eac41cb62ac8920c01a018ff3d0d3b7b9fe20aec7d4a", checked := Tryf.checked }
namespace Rows
def none {H : Type} : Left H := { results := [], args := [] }

/-- 'zzlaws_adversary_c1.PropCheckJoinsExactMostReplacedGreatest': WHATEVER THE INPUT: true; the input reads as it did. -/
def propCheckJoinsExactMostReplacedGreatestSpec : ChangeSpec := { name := "propCheckJoinsExactMostReplacedGreatest", fn := fun _ => fun
  | [d1, d2, d3] => { results := [.lit (.bool true)], args := [d1, d2, d3] }
  | _ => none }
def propCheckJoinsExactMostReplacedGreatestRow : OpenClaim := { program := "qxb6003965afmt", sum := "e84fb8157de611f86f31eac41cb62ac8920c01a018ff3d0d3b7b9fe20aec7d4a", func := "example.com/churnweave/churnweave/zzlaws_adversary_c1.PropCheckJoinsExactMostReplacedGreatest", spec := "propCheckJoinsExactMostReplacedGreatest", stops := ["fmt.errorf"], inPlace := ["fmt.errorf"], apart := false }
/-- NO THEOREM (fmt's text is open here; it may be false): for the released tool's asking of the row's closed facts alone. THE STATEMENT IS 'PropCheckJoinsExactMostReplacedGreatestToldSaid' (Qxb6003965aFmtCards.lean). -/
def PropCheckJoinsExactMostReplacedGreatestFormAsk : Prop := propCheckJoinsExactMostReplacedGreatestRow.holds Tryf.pinned (OpenSpec.ofChange propCheckJoinsExactMostReplacedGreatestSpec)

/-- ITS FALSE NEIGHBOUR: 'it returns false'. Refute it at one input. -/
def propCheckJoinsExactMostReplacedGreatestWrong : ChangeSpec := { name := "propCheckJoinsExactMostReplacedGreatest", fn := fun _ => fun
  | [d1, d2, d3] => { results := [.lit (.bool false)], args := [d1, d2, d3] }
  | _ => none }
def PropCheckJoinsExactMostReplacedGreatestWrongFormAsk : Prop := propCheckJoinsExactMostReplacedGreatestRow.holds Tryf.pinned (OpenSpec.ofChange propCheckJoinsExactMostReplacedGreatestWrong)

/-- 'zzlaws_adversary_c1.PropOldestLeavesSmallestConsecutiveIDs': WHATEVER THE INPUT: true; the input reads as it did. -/
def propOldestLeavesSmallestConsecutiveIDsSpec : ChangeSpec := { name := "propOldestLeavesSmallestConsecutiveIDs", fn := fun _ => fun
  | [d1, d2] => { results := [.lit (.bool true)], args := [d1, d2] }
  | _ => none }
def propOldestLeavesSmallestConsecutiveIDsRow : OpenClaim := { program := "qxb6003965afmt", sum := "e84fb8157de611f86f31eac41cb62ac8920c01a018ff3d0d3b7b9fe20aec7d4a", func := "example.com/churnweave/churnweave/zzlaws_adversary_c1.PropOldestLeavesSmallestConsecutiveIDs", spec := "propOldestLeavesSmallestConsecutiveIDs", stops := ["fmt.errorf"], inPlace := ["fmt.errorf"], unfollowed := true, recurses := true, apart := false }
/-- NO THEOREM (fmt's text is open here; it may be false): for the released tool's asking of the row's closed facts alone. THE STATEMENT IS 'PropOldestLeavesSmallestConsecutiveIDsToldSaid' (Qxb6003965aFmtCards.lean). -/
def PropOldestLeavesSmallestConsecutiveIDsFormAsk : Prop := propOldestLeavesSmallestConsecutiveIDsRow.holds Tryf.pinned (OpenSpec.ofChange propOldestLeavesSmallestConsecutiveIDsSpec)

/-- ITS FALSE NEIGHBOUR: 'it returns false'. Refute it at one input. -/
def propOldestLeavesSmallestConsecutiveIDsWrong : ChangeSpec := { name := "propOldestLeavesSmallestConsecutiveIDs", fn := fun _ => fun
  | [d1, d2] => { results := [.lit (.bool false)], args := [d1, d2] }
  | _ => none }
def PropOldestLeavesSmallestConsecutiveIDsWrongFormAsk : Prop := propOldestLeavesSmallestConsecutiveIDsRow.holds Tryf.pinned (OpenSpec.ofChange propOldestLeavesSmallestConsecutiveIDsWrong)

/-- 'zzlaws_adversary_c1.PropBurstRoundsSizesAndRefusals': WHATEVER THE INPUT: true; the input reads as it did. -/
def propBurstRoundsSizesAndRefusalsSpec : ChangeSpec := { name := "propBurstRoundsSizesAndRefusals", fn := fun _ => fun
  | [d1, d2, d3] => { results := [.lit (.bool true)], args := [d1, d2, d3] }
  | _ => none }
def propBurstRoundsSizesAndRefusalsRow : OpenClaim := { program := "qxb6003965afmt", sum := "e84fb8157de611f86f31eac41cb62ac8920c01a018ff3d0d3b7b9fe20aec7d4a", func := "example.com/churnweave/churnweave/zzlaws_adversary_c1.PropBurstRoundsSizesAndRefusals", spec := "propBurstRoundsSizesAndRefusals", stops := ["fmt.errorf"], inPlace := ["fmt.errorf"], unfollowed := true, recurses := true, apart := false }
/-- NO THEOREM (fmt's text is open here; it may be false): for the released tool's asking of the row's closed facts alone. THE STATEMENT IS 'PropBurstRoundsSizesAndRefusalsToldSaid' (Qxb6003965aFmtCards.lean). -/
def PropBurstRoundsSizesAndRefusalsFormAsk : Prop := propBurstRoundsSizesAndRefusalsRow.holds Tryf.pinned (OpenSpec.ofChange propBurstRoundsSizesAndRefusalsSpec)

/-- ITS FALSE NEIGHBOUR: 'it returns false'. Refute it at one input. -/
def propBurstRoundsSizesAndRefusalsWrong : ChangeSpec := { name := "propBurstRoundsSizesAndRefusals", fn := fun _ => fun
  | [d1, d2, d3] => { results := [.lit (.bool false)], args := [d1, d2, d3] }
  | _ => none }
def PropBurstRoundsSizesAndRefusalsWrongFormAsk : Prop := propBurstRoundsSizesAndRefusalsRow.holds Tryf.pinned (OpenSpec.ofChange propBurstRoundsSizesAndRefusalsWrong)

end Rows
end Go.Proofs.Qxb6003965aFmt
