/-
  DERIVED. GIVEN WITH THE SEED: THE CARDS: each row of Qxb6003757aFmtRows.lean that lists a variable, with what it lists TIED to the program's text (the seventh form; the later family's looks); each row that meets fmt, with fmt's text TOLD by the authors' own Lean function (tested against real Go, not proved from fmt's source: count such statements apart). THE CARD IS WHAT COUNTS. Prove the row's statement (the work); the ties are given (Qxb6003757aFmtTie.lean); close each card by the builder's one call (the guide's Derived/Test/ToyasCard.lean, 'card_holds'). Laid BY PROGRAM, IN A SANDBOX (cutbox-door.mjs). By AI agents, Wed Nov 11 2026. No macro, syntax, notation, axiom, sorry.
-/
import Derived.Test.Qxb6003757aFmtRows
import GoSem.ClaimSeven
namespace Go.Proofs.Qxb6003757aFmt
namespace Rows

/-- THE TOLD CARD OF 'zzlaws_bandwidth_g1.FnRequestValuesExact'. -/
def fnRequestValuesExactCard : Claim7 := { stood := { row := fnRequestValuesExactRow, standIns := [], harness := (true, "be7a619c3e6ee50471874ae9d2dc6a424797f269ac9f943d75bbb75b953ccdfe"), looks := false }, told := true, goes := false }
def FnRequestValuesExactToldSaid : Prop := Claim7.holds Tryf.pinned (.plain (OpenSpec.ofChange fnRequestValuesExactSpec)) fnRequestValuesExactCard
/-- ITS FALSE NEIGHBOUR. Refute it at one input. -/
def FnRequestValuesExactToldWrongFalsely : Prop := Claim7.holds Tryf.pinned (.plain (OpenSpec.ofChange fnRequestValuesExactWrong)) fnRequestValuesExactCard

/-- THE TOLD CARD OF 'zzlaws_bandwidth_g1.FnRequestOptionsSpec'. -/
def fnRequestOptionsSpecCard : Claim7 := { stood := { row := fnRequestOptionsSpecRow, standIns := [], harness := (true, "be7a619c3e6ee50471874ae9d2dc6a424797f269ac9f943d75bbb75b953ccdfe"), looks := false }, told := true, goes := false }
def FnRequestOptionsSpecToldSaid : Prop := Claim7.holds Tryf.pinned (.plain (OpenSpec.ofChange fnRequestOptionsSpecSpec)) fnRequestOptionsSpecCard
/-- ITS FALSE NEIGHBOUR. Refute it at one input. -/
def FnRequestOptionsSpecToldWrongFalsely : Prop := Claim7.holds Tryf.pinned (.plain (OpenSpec.ofChange fnRequestOptionsSpecWrong)) fnRequestOptionsSpecCard

/-- THE TOLD CARD OF 'zzlaws_bandwidth_g1.FnRequestValuesFeedOptions'. -/
def fnRequestValuesFeedOptionsCard : Claim7 := { stood := { row := fnRequestValuesFeedOptionsRow, standIns := [], harness := (true, "be7a619c3e6ee50471874ae9d2dc6a424797f269ac9f943d75bbb75b953ccdfe"), looks := false }, told := true, goes := false }
def FnRequestValuesFeedOptionsToldSaid : Prop := Claim7.holds Tryf.pinned (.plain (OpenSpec.ofChange fnRequestValuesFeedOptionsSpec)) fnRequestValuesFeedOptionsCard
/-- ITS FALSE NEIGHBOUR. Refute it at one input. -/
def FnRequestValuesFeedOptionsToldWrongFalsely : Prop := Claim7.holds Tryf.pinned (.plain (OpenSpec.ofChange fnRequestValuesFeedOptionsWrong)) fnRequestValuesFeedOptionsCard

/-- THE TOLD CARD OF 'zzlaws_bandwidth_g1.FnBaseBandwidthMaximal'. -/
def fnBaseBandwidthMaximalCard : Claim7 := { stood := { row := fnBaseBandwidthMaximalRow, standIns := [], harness := (true, "be7a619c3e6ee50471874ae9d2dc6a424797f269ac9f943d75bbb75b953ccdfe"), looks := false }, told := true, goes := false }
def FnBaseBandwidthMaximalToldSaid : Prop := Claim7.holds Tryf.pinned (.plain (OpenSpec.ofChange fnBaseBandwidthMaximalSpec)) fnBaseBandwidthMaximalCard
/-- ITS FALSE NEIGHBOUR. Refute it at one input. -/
def FnBaseBandwidthMaximalToldWrongFalsely : Prop := Claim7.holds Tryf.pinned (.plain (OpenSpec.ofChange fnBaseBandwidthMaximalWrong)) fnBaseBandwidthMaximalCard
end Rows
end Go.Proofs.Qxb6003757aFmt
