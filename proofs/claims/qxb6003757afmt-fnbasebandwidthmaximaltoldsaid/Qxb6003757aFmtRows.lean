/-
  No cell of these rows narrows 'for every input' (looked for: loops, veiled, ifaces, maps, wideKeys, modest, calm, conditions, laid).
  DERIVED. THE GIVEN ROWS OF THIS SEAT. 4 by the template 'for every input the law returns true; each argument reads behind the call as it read before'; 0 by the template 'total and deterministic' (their statements: Qxb6003757aFmtTotals.lean).
  GIVEN WITH THE SEED: the statements are not yours to turn. If you find one false, say at which input.
  Laid BY PROGRAM, IN A SANDBOX (cutbox-rows.mjs): the forced cells as the released guide's own fill.sh prints them over the translation 6998af7245400dce… (all of the seat's roots in one cut). By AI agents, Wed Nov 11 2026. No macro, syntax, notation, axiom, sorry.
-/
import Derived.Test.Qxb6003757aFmtChecked
import GoSem.Claim
import GoSem.ClaimJoined
import GoSem.ClaimMapViews
import Derived.JoinedTies
import Derived.KernelRfl
namespace Go.Proofs.Qxb6003757aFmt
/- THE CELL 'sum', in the pinned program and in every row, IS THE sha256 OF THE DUMP (.gsa) THAT Qxb6003757aFmtProg.lean LOADS. Nothing in Lean hashes anything: it is a label: what it is worth is what the hold of that sum in a sandbox is worth. -/
noncomputable def Tryf.pinned : Pinned := { name := "qxb6003757afmt", sum := "6998af7245400dce8d89d90a28edef887391e7bad6c495b70ba1a794f8adab72", checked := Tryf.checked }
namespace Rows
def none {H : Type} : Left H := { results := [], args := [] }

/-- 'zzlaws_bandwidth_g1.FnRequestValuesExact': WHATEVER THE INPUT: true; the input reads as it did. -/
def fnRequestValuesExactSpec : ChangeSpec := { name := "fnRequestValuesExact", fn := fun _ => fun
  | [d1, d2, d3, d4] => { results := [.lit (.bool true)], args := [d1, d2, d3, d4] }
  | _ => none }
def fnRequestValuesExactRow : OpenClaim := { program := "qxb6003757afmt", sum := "6998af7245400dce8d89d90a28edef887391e7bad6c495b70ba1a794f8adab72", func := "example.com/shardwire/shardwire/zzlaws_bandwidth_g1.FnRequestValuesExact", spec := "fnRequestValuesExact", stops := ["fmt.Sprintf"], inPlace := ["fmt.Sprintf"], apart := false }
/-- NO THEOREM (fmt's text is open here; it may be false): for the released tool's asking of the row's closed facts alone. THE STATEMENT IS 'FnRequestValuesExactToldSaid' (Qxb6003757aFmtCards.lean). -/
def FnRequestValuesExactFormAsk : Prop := fnRequestValuesExactRow.holds Tryf.pinned (OpenSpec.ofChange fnRequestValuesExactSpec)

/-- ITS FALSE NEIGHBOUR: 'it returns false'. Refute it at one input. -/
def fnRequestValuesExactWrong : ChangeSpec := { name := "fnRequestValuesExact", fn := fun _ => fun
  | [d1, d2, d3, d4] => { results := [.lit (.bool false)], args := [d1, d2, d3, d4] }
  | _ => none }
def FnRequestValuesExactWrongFormAsk : Prop := fnRequestValuesExactRow.holds Tryf.pinned (OpenSpec.ofChange fnRequestValuesExactWrong)

/-- 'zzlaws_bandwidth_g1.FnRequestOptionsSpec': WHATEVER THE INPUT: true; the input reads as it did. -/
def fnRequestOptionsSpecSpec : ChangeSpec := { name := "fnRequestOptionsSpec", fn := fun _ => fun
  | [d1, d2] => { results := [.lit (.bool true)], args := [d1, d2] }
  | _ => none }
def fnRequestOptionsSpecRow : OpenClaim := { program := "qxb6003757afmt", sum := "6998af7245400dce8d89d90a28edef887391e7bad6c495b70ba1a794f8adab72", func := "example.com/shardwire/shardwire/zzlaws_bandwidth_g1.FnRequestOptionsSpec", spec := "fnRequestOptionsSpec", stops := ["fmt.Sprintf"], inPlace := ["fmt.Sprintf"], apart := false }
/-- NO THEOREM (fmt's text is open here; it may be false): for the released tool's asking of the row's closed facts alone. THE STATEMENT IS 'FnRequestOptionsSpecToldSaid' (Qxb6003757aFmtCards.lean). -/
def FnRequestOptionsSpecFormAsk : Prop := fnRequestOptionsSpecRow.holds Tryf.pinned (OpenSpec.ofChange fnRequestOptionsSpecSpec)

/-- ITS FALSE NEIGHBOUR: 'it returns false'. Refute it at one input. -/
def fnRequestOptionsSpecWrong : ChangeSpec := { name := "fnRequestOptionsSpec", fn := fun _ => fun
  | [d1, d2] => { results := [.lit (.bool false)], args := [d1, d2] }
  | _ => none }
def FnRequestOptionsSpecWrongFormAsk : Prop := fnRequestOptionsSpecRow.holds Tryf.pinned (OpenSpec.ofChange fnRequestOptionsSpecWrong)

/-- 'zzlaws_bandwidth_g1.FnRequestValuesFeedOptions': WHATEVER THE INPUT: true; the input reads as it did. -/
def fnRequestValuesFeedOptionsSpec : ChangeSpec := { name := "fnRequestValuesFeedOptions", fn := fun _ => fun
  | [d1, d2, d3, d4] => { results := [.lit (.bool true)], args := [d1, d2, d3, d4] }
  | _ => none }
def fnRequestValuesFeedOptionsRow : OpenClaim := { program := "qxb6003757afmt", sum := "6998af7245400dce8d89d90a28edef887391e7bad6c495b70ba1a794f8adab72", func := "example.com/shardwire/shardwire/zzlaws_bandwidth_g1.FnRequestValuesFeedOptions", spec := "fnRequestValuesFeedOptions", stops := ["fmt.Sprintf"], inPlace := ["fmt.Sprintf"], apart := false }
/-- NO THEOREM (fmt's text is open here; it may be false): for the released tool's asking of the row's closed facts alone. THE STATEMENT IS 'FnRequestValuesFeedOptionsToldSaid' (Qxb6003757aFmtCards.lean). -/
def FnRequestValuesFeedOptionsFormAsk : Prop := fnRequestValuesFeedOptionsRow.holds Tryf.pinned (OpenSpec.ofChange fnRequestValuesFeedOptionsSpec)

/-- ITS FALSE NEIGHBOUR: 'it returns false'. Refute it at one input. -/
def fnRequestValuesFeedOptionsWrong : ChangeSpec := { name := "fnRequestValuesFeedOptions", fn := fun _ => fun
  | [d1, d2, d3, d4] => { results := [.lit (.bool false)], args := [d1, d2, d3, d4] }
  | _ => none }
def FnRequestValuesFeedOptionsWrongFormAsk : Prop := fnRequestValuesFeedOptionsRow.holds Tryf.pinned (OpenSpec.ofChange fnRequestValuesFeedOptionsWrong)

/-- 'zzlaws_bandwidth_g1.FnBaseBandwidthMaximal': WHATEVER THE INPUT: true; the input reads as it did. -/
def fnBaseBandwidthMaximalSpec : ChangeSpec := { name := "fnBaseBandwidthMaximal", fn := fun _ => fun
  | [d1, d2, d3, d4] => { results := [.lit (.bool true)], args := [d1, d2, d3, d4] }
  | _ => none }
def fnBaseBandwidthMaximalRow : OpenClaim := { program := "qxb6003757afmt", sum := "6998af7245400dce8d89d90a28edef887391e7bad6c495b70ba1a794f8adab72", func := "example.com/shardwire/shardwire/zzlaws_bandwidth_g1.FnBaseBandwidthMaximal", spec := "fnBaseBandwidthMaximal", stops := ["fmt.Sprintf"], inPlace := ["fmt.Sprintf"], apart := false }
/-- NO THEOREM (fmt's text is open here; it may be false): for the released tool's asking of the row's closed facts alone. THE STATEMENT IS 'FnBaseBandwidthMaximalToldSaid' (Qxb6003757aFmtCards.lean). -/
def FnBaseBandwidthMaximalFormAsk : Prop := fnBaseBandwidthMaximalRow.holds Tryf.pinned (OpenSpec.ofChange fnBaseBandwidthMaximalSpec)

/-- ITS FALSE NEIGHBOUR: 'it returns false'. Refute it at one input. -/
def fnBaseBandwidthMaximalWrong : ChangeSpec := { name := "fnBaseBandwidthMaximal", fn := fun _ => fun
  | [d1, d2, d3, d4] => { results := [.lit (.bool false)], args := [d1, d2, d3, d4] }
  | _ => none }
def FnBaseBandwidthMaximalWrongFormAsk : Prop := fnBaseBandwidthMaximalRow.holds Tryf.pinned (OpenSpec.ofChange fnBaseBandwidthMaximalWrong)

end Rows
end Go.Proofs.Qxb6003757aFmt
