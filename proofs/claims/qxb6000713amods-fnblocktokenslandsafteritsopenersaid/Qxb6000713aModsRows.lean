/-
  No cell of these rows narrows 'for every input' (looked for: loops, veiled, ifaces, maps, wideKeys, modest, calm, conditions, laid).
  DERIVED. THE GIVEN ROWS OF THIS SEAT. 9 by the template 'for every input the law returns true; each argument reads behind the call as it read before'; 0 by the template 'total and deterministic' (their statements: Qxb6000713aModsTotals.lean).
  GIVEN WITH THE SEED: the statements are not yours to turn. If you find one false, say at which input.
  Laid BY PROGRAM, IN A SANDBOX (cutbox-rows.mjs): the forced cells as the released guide's own fill.sh prints them over the translation 62731e6d79462459… (all of the seat's roots in one cut). By AI agents, Wed Nov 11 2026. No macro, syntax, notation, axiom, sorry.
-/
import Derived.Test.Qxb6000713aModsChecked
import GoSem.Claim
import GoSem.ClaimJoined
import GoSem.ClaimMapViews
import Derived.JoinedTies
import Derived.KernelRfl
namespace Go.Proofs.Qxb6000713aMods
/- THE CELL 'sum', in the pinned program and in every row, IS THE sha256 OF THE DUMP (.gsa) THAT Qxb6000713aModsProg.lean LOADS. Nothing in Lean hashes anything: it is a label: what it is worth is what the hold of that sum in a sandbox is worth. -/
noncomputable def Trym.pinned : Pinned := { name := "qxb6000713amods", sum := "62731e6d79462459f7cf7d48fe959a517db034e8f801ee18ca2daae48b3d8fc9", checked := Trym.checked }
namespace Rows
def none {H : Type} : Left H := { results := [], args := [] }

/-- 'zzlaws_replay_b1.FnBlockTokensKeepsIndentsAStack': WHATEVER THE INPUT: true; the input reads as it did. -/
def fnBlockTokensKeepsIndentsAStackSpec : ChangeSpec := { name := "fnBlockTokensKeepsIndentsAStack", fn := fun _ => fun
  | [d1, d2, d3, d4, d5, d6, d7] => { results := [.lit (.bool true)], args := [d1, d2, d3, d4, d5, d6, d7] }
  | _ => none }
def fnBlockTokensKeepsIndentsAStackRow : OpenClaim := { program := "qxb6000713amods", sum := "62731e6d79462459f7cf7d48fe959a517db034e8f801ee18ca2daae48b3d8fc9", func := "example.com/anteroom/anteroom/zzlaws_replay_b1.FnBlockTokensKeepsIndentsAStack", spec := "fnBlockTokensKeepsIndentsAStack", inPlace := ["internal/bytealg.IndexByte", "internal/bytealg.IndexByteString"], make := .lifted ["publicsums"], apart := false }
def FnBlockTokensKeepsIndentsAStackSaid : Prop := fnBlockTokensKeepsIndentsAStackRow.holds Trym.pinned (OpenSpec.ofChange fnBlockTokensKeepsIndentsAStackSpec)

/-- ITS FALSE NEIGHBOUR: 'it returns false'. Refute it at one input. -/
def fnBlockTokensKeepsIndentsAStackWrong : ChangeSpec := { name := "fnBlockTokensKeepsIndentsAStack", fn := fun _ => fun
  | [d1, d2, d3, d4, d5, d6, d7] => { results := [.lit (.bool false)], args := [d1, d2, d3, d4, d5, d6, d7] }
  | _ => none }
def FnBlockTokensKeepsIndentsAStackWrongFalsely : Prop := fnBlockTokensKeepsIndentsAStackRow.holds Trym.pinned (OpenSpec.ofChange fnBlockTokensKeepsIndentsAStackWrong)

/-- 'zzlaws_replay_b1.FnBlockTokensResumesAfterABlank': WHATEVER THE INPUT: true; the input reads as it did. -/
def fnBlockTokensResumesAfterABlankSpec : ChangeSpec := { name := "fnBlockTokensResumesAfterABlank", fn := fun _ => fun
  | [d1, d2, d3, d4, d5, d6, d7, d8] => { results := [.lit (.bool true)], args := [d1, d2, d3, d4, d5, d6, d7, d8] }
  | _ => none }
def fnBlockTokensResumesAfterABlankRow : OpenClaim := { program := "qxb6000713amods", sum := "62731e6d79462459f7cf7d48fe959a517db034e8f801ee18ca2daae48b3d8fc9", func := "example.com/anteroom/anteroom/zzlaws_replay_b1.FnBlockTokensResumesAfterABlank", spec := "fnBlockTokensResumesAfterABlank", inPlace := ["internal/bytealg.IndexByte", "internal/bytealg.IndexByteString"], make := .lifted ["publicsums"], apart := false }
def FnBlockTokensResumesAfterABlankSaid : Prop := fnBlockTokensResumesAfterABlankRow.holds Trym.pinned (OpenSpec.ofChange fnBlockTokensResumesAfterABlankSpec)

/-- ITS FALSE NEIGHBOUR: 'it returns false'. Refute it at one input. -/
def fnBlockTokensResumesAfterABlankWrong : ChangeSpec := { name := "fnBlockTokensResumesAfterABlank", fn := fun _ => fun
  | [d1, d2, d3, d4, d5, d6, d7, d8] => { results := [.lit (.bool false)], args := [d1, d2, d3, d4, d5, d6, d7, d8] }
  | _ => none }
def FnBlockTokensResumesAfterABlankWrongFalsely : Prop := fnBlockTokensResumesAfterABlankRow.holds Trym.pinned (OpenSpec.ofChange fnBlockTokensResumesAfterABlankWrong)

/-- 'zzlaws_replay_b1.FnFlowTokensLandsAfterItsToken': WHATEVER THE INPUT: true; the input reads as it did. -/
def fnFlowTokensLandsAfterItsTokenSpec : ChangeSpec := { name := "fnFlowTokensLandsAfterItsToken", fn := fun _ => fun
  | [d1, d2, d3, d4, d5, d6, d7] => { results := [.lit (.bool true)], args := [d1, d2, d3, d4, d5, d6, d7] }
  | _ => none }
def fnFlowTokensLandsAfterItsTokenRow : OpenClaim := { program := "qxb6000713amods", sum := "62731e6d79462459f7cf7d48fe959a517db034e8f801ee18ca2daae48b3d8fc9", func := "example.com/anteroom/anteroom/zzlaws_replay_b1.FnFlowTokensLandsAfterItsToken", spec := "fnFlowTokensLandsAfterItsToken", inPlace := ["internal/bytealg.IndexByte", "internal/bytealg.IndexByteString"], make := .lifted ["publicsums"], apart := false }
def FnFlowTokensLandsAfterItsTokenSaid : Prop := fnFlowTokensLandsAfterItsTokenRow.holds Trym.pinned (OpenSpec.ofChange fnFlowTokensLandsAfterItsTokenSpec)

/-- ITS FALSE NEIGHBOUR: 'it returns false'. Refute it at one input. -/
def fnFlowTokensLandsAfterItsTokenWrong : ChangeSpec := { name := "fnFlowTokensLandsAfterItsToken", fn := fun _ => fun
  | [d1, d2, d3, d4, d5, d6, d7] => { results := [.lit (.bool false)], args := [d1, d2, d3, d4, d5, d6, d7] }
  | _ => none }
def FnFlowTokensLandsAfterItsTokenWrongFalsely : Prop := fnFlowTokensLandsAfterItsTokenRow.holds Trym.pinned (OpenSpec.ofChange fnFlowTokensLandsAfterItsTokenWrong)

/-- 'zzlaws_replay_b1.FnFlowTokensCountsBrackets': WHATEVER THE INPUT: true; the input reads as it did. -/
def fnFlowTokensCountsBracketsSpec : ChangeSpec := { name := "fnFlowTokensCountsBrackets", fn := fun _ => fun
  | [d1, d2, d3] => { results := [.lit (.bool true)], args := [d1, d2, d3] }
  | _ => none }
def fnFlowTokensCountsBracketsRow : OpenClaim := { program := "qxb6000713amods", sum := "62731e6d79462459f7cf7d48fe959a517db034e8f801ee18ca2daae48b3d8fc9", func := "example.com/anteroom/anteroom/zzlaws_replay_b1.FnFlowTokensCountsBrackets", spec := "fnFlowTokensCountsBrackets", inPlace := ["internal/bytealg.IndexByte", "internal/bytealg.IndexByteString"], make := .lifted ["publicsums"], apart := false }
def FnFlowTokensCountsBracketsSaid : Prop := fnFlowTokensCountsBracketsRow.holds Trym.pinned (OpenSpec.ofChange fnFlowTokensCountsBracketsSpec)

/-- ITS FALSE NEIGHBOUR: 'it returns false'. Refute it at one input. -/
def fnFlowTokensCountsBracketsWrong : ChangeSpec := { name := "fnFlowTokensCountsBrackets", fn := fun _ => fun
  | [d1, d2, d3] => { results := [.lit (.bool false)], args := [d1, d2, d3] }
  | _ => none }
def FnFlowTokensCountsBracketsWrongFalsely : Prop := fnFlowTokensCountsBracketsRow.holds Trym.pinned (OpenSpec.ofChange fnFlowTokensCountsBracketsWrong)

/-- 'zzlaws_replay_b1.FnFlowTokensResumesAfterABlank': WHATEVER THE INPUT: true; the input reads as it did. -/
def fnFlowTokensResumesAfterABlankSpec : ChangeSpec := { name := "fnFlowTokensResumesAfterABlank", fn := fun _ => fun
  | [d1, d2, d3, d4, d5, d6, d7, d8] => { results := [.lit (.bool true)], args := [d1, d2, d3, d4, d5, d6, d7, d8] }
  | _ => none }
def fnFlowTokensResumesAfterABlankRow : OpenClaim := { program := "qxb6000713amods", sum := "62731e6d79462459f7cf7d48fe959a517db034e8f801ee18ca2daae48b3d8fc9", func := "example.com/anteroom/anteroom/zzlaws_replay_b1.FnFlowTokensResumesAfterABlank", spec := "fnFlowTokensResumesAfterABlank", inPlace := ["internal/bytealg.IndexByte", "internal/bytealg.IndexByteString"], make := .lifted ["publicsums"], apart := false }
def FnFlowTokensResumesAfterABlankSaid : Prop := fnFlowTokensResumesAfterABlankRow.holds Trym.pinned (OpenSpec.ofChange fnFlowTokensResumesAfterABlankSpec)

/-- ITS FALSE NEIGHBOUR: 'it returns false'. Refute it at one input. -/
def fnFlowTokensResumesAfterABlankWrong : ChangeSpec := { name := "fnFlowTokensResumesAfterABlank", fn := fun _ => fun
  | [d1, d2, d3, d4, d5, d6, d7, d8] => { results := [.lit (.bool false)], args := [d1, d2, d3, d4, d5, d6, d7, d8] }
  | _ => none }
def FnFlowTokensResumesAfterABlankWrongFalsely : Prop := fnFlowTokensResumesAfterABlankRow.holds Trym.pinned (OpenSpec.ofChange fnFlowTokensResumesAfterABlankWrong)

/-- 'zzlaws_replay_b1.FnNamesKindMatchesAMemberScan': WHATEVER THE INPUT: true; the input reads as it did. -/
def fnNamesKindMatchesAMemberScanSpec : ChangeSpec := { name := "fnNamesKindMatchesAMemberScan", fn := fun _ => fun
  | [d1, d2] => { results := [.lit (.bool true)], args := [d1, d2] }
  | _ => none }
def fnNamesKindMatchesAMemberScanRow : OpenClaim := { program := "qxb6000713amods", sum := "62731e6d79462459f7cf7d48fe959a517db034e8f801ee18ca2daae48b3d8fc9", func := "example.com/anteroom/anteroom/zzlaws_replay_b1.FnNamesKindMatchesAMemberScan", spec := "fnNamesKindMatchesAMemberScan", inPlace := ["internal/bytealg.IndexByte", "internal/bytealg.Index"], named := ["internal/bytealg.MaxLen"], make := .lifted ["publicsums"], apart := false }
def FnNamesKindMatchesAMemberScanSaid : Prop := fnNamesKindMatchesAMemberScanRow.holds Trym.pinned (OpenSpec.ofChange fnNamesKindMatchesAMemberScanSpec)

/-- ITS FALSE NEIGHBOUR: 'it returns false'. Refute it at one input. -/
def fnNamesKindMatchesAMemberScanWrong : ChangeSpec := { name := "fnNamesKindMatchesAMemberScan", fn := fun _ => fun
  | [d1, d2] => { results := [.lit (.bool false)], args := [d1, d2] }
  | _ => none }
def FnNamesKindMatchesAMemberScanWrongFalsely : Prop := fnNamesKindMatchesAMemberScanRow.holds Trym.pinned (OpenSpec.ofChange fnNamesKindMatchesAMemberScanWrong)

/-- 'zzlaws_replay_b1.FnNamesKindSurvivesSurroundingText': WHATEVER THE INPUT: true; the input reads as it did. -/
def fnNamesKindSurvivesSurroundingTextSpec : ChangeSpec := { name := "fnNamesKindSurvivesSurroundingText", fn := fun _ => fun
  | [d1, d2, d3, d4] => { results := [.lit (.bool true)], args := [d1, d2, d3, d4] }
  | _ => none }
def fnNamesKindSurvivesSurroundingTextRow : OpenClaim := { program := "qxb6000713amods", sum := "62731e6d79462459f7cf7d48fe959a517db034e8f801ee18ca2daae48b3d8fc9", func := "example.com/anteroom/anteroom/zzlaws_replay_b1.FnNamesKindSurvivesSurroundingText", spec := "fnNamesKindSurvivesSurroundingText", inPlace := ["internal/bytealg.IndexByte", "internal/bytealg.Index"], named := ["internal/bytealg.MaxLen"], make := .lifted ["publicsums"], apart := false }
def FnNamesKindSurvivesSurroundingTextSaid : Prop := fnNamesKindSurvivesSurroundingTextRow.holds Trym.pinned (OpenSpec.ofChange fnNamesKindSurvivesSurroundingTextSpec)

/-- ITS FALSE NEIGHBOUR: 'it returns false'. Refute it at one input. -/
def fnNamesKindSurvivesSurroundingTextWrong : ChangeSpec := { name := "fnNamesKindSurvivesSurroundingText", fn := fun _ => fun
  | [d1, d2, d3, d4] => { results := [.lit (.bool false)], args := [d1, d2, d3, d4] }
  | _ => none }
def FnNamesKindSurvivesSurroundingTextWrongFalsely : Prop := fnNamesKindSurvivesSurroundingTextRow.holds Trym.pinned (OpenSpec.ofChange fnNamesKindSurvivesSurroundingTextWrong)

/-- 'zzlaws_replay_b1.FnNamesKindTellsTheKindOfAOneMemberObject': WHATEVER THE INPUT: true; the input reads as it did. -/
def fnNamesKindTellsTheKindOfAOneMemberObjectSpec : ChangeSpec := { name := "fnNamesKindTellsTheKindOfAOneMemberObject", fn := fun _ => fun
  | [d1, d2, d3, d4] => { results := [.lit (.bool true)], args := [d1, d2, d3, d4] }
  | _ => none }
def fnNamesKindTellsTheKindOfAOneMemberObjectRow : OpenClaim := { program := "qxb6000713amods", sum := "62731e6d79462459f7cf7d48fe959a517db034e8f801ee18ca2daae48b3d8fc9", func := "example.com/anteroom/anteroom/zzlaws_replay_b1.FnNamesKindTellsTheKindOfAOneMemberObject", spec := "fnNamesKindTellsTheKindOfAOneMemberObject", inPlace := ["internal/bytealg.IndexByte", "internal/bytealg.Index"], named := ["internal/bytealg.MaxLen"], make := .lifted ["publicsums"], apart := false }
def FnNamesKindTellsTheKindOfAOneMemberObjectSaid : Prop := fnNamesKindTellsTheKindOfAOneMemberObjectRow.holds Trym.pinned (OpenSpec.ofChange fnNamesKindTellsTheKindOfAOneMemberObjectSpec)

/-- ITS FALSE NEIGHBOUR: 'it returns false'. Refute it at one input. -/
def fnNamesKindTellsTheKindOfAOneMemberObjectWrong : ChangeSpec := { name := "fnNamesKindTellsTheKindOfAOneMemberObject", fn := fun _ => fun
  | [d1, d2, d3, d4] => { results := [.lit (.bool false)], args := [d1, d2, d3, d4] }
  | _ => none }
def FnNamesKindTellsTheKindOfAOneMemberObjectWrongFalsely : Prop := fnNamesKindTellsTheKindOfAOneMemberObjectRow.holds Trym.pinned (OpenSpec.ofChange fnNamesKindTellsTheKindOfAOneMemberObjectWrong)

/-- 'zzlaws_replay_b1.FnBlockTokensLandsAfterItsOpener': WHATEVER THE INPUT: true; the input reads as it did. -/
def fnBlockTokensLandsAfterItsOpenerSpec : ChangeSpec := { name := "fnBlockTokensLandsAfterItsOpener", fn := fun _ => fun
  | [d1, d2, d3, d4, d5, d6, d7] => { results := [.lit (.bool true)], args := [d1, d2, d3, d4, d5, d6, d7] }
  | _ => none }
def fnBlockTokensLandsAfterItsOpenerRow : OpenClaim := { program := "qxb6000713amods", sum := "62731e6d79462459f7cf7d48fe959a517db034e8f801ee18ca2daae48b3d8fc9", func := "example.com/anteroom/anteroom/zzlaws_replay_b1.FnBlockTokensLandsAfterItsOpener", spec := "fnBlockTokensLandsAfterItsOpener", inPlace := ["internal/bytealg.IndexByte", "internal/bytealg.IndexByteString"], make := .lifted ["publicsums"], apart := false }
def FnBlockTokensLandsAfterItsOpenerSaid : Prop := fnBlockTokensLandsAfterItsOpenerRow.holds Trym.pinned (OpenSpec.ofChange fnBlockTokensLandsAfterItsOpenerSpec)

/-- ITS FALSE NEIGHBOUR: 'it returns false'. Refute it at one input. -/
def fnBlockTokensLandsAfterItsOpenerWrong : ChangeSpec := { name := "fnBlockTokensLandsAfterItsOpener", fn := fun _ => fun
  | [d1, d2, d3, d4, d5, d6, d7] => { results := [.lit (.bool false)], args := [d1, d2, d3, d4, d5, d6, d7] }
  | _ => none }
def FnBlockTokensLandsAfterItsOpenerWrongFalsely : Prop := fnBlockTokensLandsAfterItsOpenerRow.holds Trym.pinned (OpenSpec.ofChange fnBlockTokensLandsAfterItsOpenerWrong)

end Rows
end Go.Proofs.Qxb6000713aMods
