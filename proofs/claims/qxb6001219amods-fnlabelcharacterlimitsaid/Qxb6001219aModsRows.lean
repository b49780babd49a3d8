/-
  No cell of these rows narrows 'for every input' (looked for: loops, veiled, ifaces, maps, wideKeys, modest, calm, conditions, laid).
  DERIVED. THE GIVEN ROWS OF THIS SEAT. 6 by the template 'for every input the law returns true; each argument reads behind the call as it read before'; 0 by the template 'total and deterministic' (their statements: Qxb6001219aModsTotals.lean).
  GIVEN WITH THE SEED: the statements are not yours to turn. If you find one false, say at which input.
  Laid BY PROGRAM, IN A SANDBOX (cutbox-rows.mjs): the forced cells as the released guide's own fill.sh prints them over the translation f2d3437f3632407d… (all of the seat's roots in one cut). By AI agents, Wed Nov 11 2026. No macro, syntax, notation, axiom, sorry.
-/
import Derived.Test.Qxb6001219aModsChecked
import GoSem.Claim
import GoSem.ClaimJoined
import GoSem.ClaimMapViews
import Derived.JoinedTies
import Derived.KernelRfl
namespace Go.Proofs.Qxb6001219aMods
/- THE CELL 'sum', in the pinned program and in every row, IS THE sha256 OF THE DUMP (.gsa) THAT Qxb6001219aModsProg.lean LOADS. Nothing in Lean hashes anything: it is a label: what it is worth is what the hold of that sum in a sandbox is worth. -/
noncomputable def Trym.pinned : Pinned := { name := "qxb6001219amods", sum := "f2d3437f3632407dbcc7a33bab99e16245e66b0bc7044290150fee8e32ffe380", checked := Trym.checked }
namespace Rows
def none {H : Type} : Left H := { results := [], args := [] }

/-- 'zzlaws_document_b1.FnLabelShapeAndExtension': WHATEVER THE INPUT: true; the input reads as it did. -/
def fnLabelShapeAndExtensionSpec : ChangeSpec := { name := "fnLabelShapeAndExtension", fn := fun _ => fun
  | [d1, d2] => { results := [.lit (.bool true)], args := [d1, d2] }
  | _ => none }
def fnLabelShapeAndExtensionRow : OpenClaim := { program := "qxb6001219amods", sum := "f2d3437f3632407dbcc7a33bab99e16245e66b0bc7044290150fee8e32ffe380", func := "example.com/keelmark/keelmark/zzlaws_document_b1.FnLabelShapeAndExtension", spec := "fnLabelShapeAndExtension", inPlace := ["internal/bytealg.IndexByteString"], make := .lifted ["publicsums"], apart := false }
def FnLabelShapeAndExtensionSaid : Prop := fnLabelShapeAndExtensionRow.holds Trym.pinned (OpenSpec.ofChange fnLabelShapeAndExtensionSpec)

/-- ITS FALSE NEIGHBOUR: 'it returns false'. Refute it at one input. -/
def fnLabelShapeAndExtensionWrong : ChangeSpec := { name := "fnLabelShapeAndExtension", fn := fun _ => fun
  | [d1, d2] => { results := [.lit (.bool false)], args := [d1, d2] }
  | _ => none }
def FnLabelShapeAndExtensionWrongFalsely : Prop := fnLabelShapeAndExtensionRow.holds Trym.pinned (OpenSpec.ofChange fnLabelShapeAndExtensionWrong)

/-- 'zzlaws_document_b1.FnLabelNoShorterPrefix': WHATEVER THE INPUT: true; the input reads as it did. -/
def fnLabelNoShorterPrefixSpec : ChangeSpec := { name := "fnLabelNoShorterPrefix", fn := fun _ => fun
  | [d1, d2] => { results := [.lit (.bool true)], args := [d1, d2] }
  | _ => none }
def fnLabelNoShorterPrefixRow : OpenClaim := { program := "qxb6001219amods", sum := "f2d3437f3632407dbcc7a33bab99e16245e66b0bc7044290150fee8e32ffe380", func := "example.com/keelmark/keelmark/zzlaws_document_b1.FnLabelNoShorterPrefix", spec := "fnLabelNoShorterPrefix", inPlace := ["internal/bytealg.IndexByteString"], make := .lifted ["publicsums"], apart := false }
def FnLabelNoShorterPrefixSaid : Prop := fnLabelNoShorterPrefixRow.holds Trym.pinned (OpenSpec.ofChange fnLabelNoShorterPrefixSpec)

/-- ITS FALSE NEIGHBOUR: 'it returns false'. Refute it at one input. -/
def fnLabelNoShorterPrefixWrong : ChangeSpec := { name := "fnLabelNoShorterPrefix", fn := fun _ => fun
  | [d1, d2] => { results := [.lit (.bool false)], args := [d1, d2] }
  | _ => none }
def FnLabelNoShorterPrefixWrongFalsely : Prop := fnLabelNoShorterPrefixRow.holds Trym.pinned (OpenSpec.ofChange fnLabelNoShorterPrefixWrong)

/-- 'zzlaws_document_b1.FnLabelCharacterLimit': WHATEVER THE INPUT: true; the input reads as it did. -/
def fnLabelCharacterLimitSpec : ChangeSpec := { name := "fnLabelCharacterLimit", fn := fun _ => fun
  | [d1, d2, d3] => { results := [.lit (.bool true)], args := [d1, d2, d3] }
  | _ => none }
def fnLabelCharacterLimitRow : OpenClaim := { program := "qxb6001219amods", sum := "f2d3437f3632407dbcc7a33bab99e16245e66b0bc7044290150fee8e32ffe380", func := "example.com/keelmark/keelmark/zzlaws_document_b1.FnLabelCharacterLimit", spec := "fnLabelCharacterLimit", inPlace := ["internal/bytealg.IndexByteString"], make := .lifted ["publicsums"], apart := false }
def FnLabelCharacterLimitSaid : Prop := fnLabelCharacterLimitRow.holds Trym.pinned (OpenSpec.ofChange fnLabelCharacterLimitSpec)

/-- ITS FALSE NEIGHBOUR: 'it returns false'. Refute it at one input. -/
def fnLabelCharacterLimitWrong : ChangeSpec := { name := "fnLabelCharacterLimit", fn := fun _ => fun
  | [d1, d2, d3] => { results := [.lit (.bool false)], args := [d1, d2, d3] }
  | _ => none }
def FnLabelCharacterLimitWrongFalsely : Prop := fnLabelCharacterLimitRow.holds Trym.pinned (OpenSpec.ofChange fnLabelCharacterLimitWrong)

/-- 'zzlaws_document_b1.FnDestinationShape': WHATEVER THE INPUT: true; the input reads as it did. -/
def fnDestinationShapeSpec : ChangeSpec := { name := "fnDestinationShape", fn := fun _ => fun
  | [d] => { results := [.lit (.bool true)], args := [d] }
  | _ => none }
def fnDestinationShapeRow : OpenClaim := { program := "qxb6001219amods", sum := "f2d3437f3632407dbcc7a33bab99e16245e66b0bc7044290150fee8e32ffe380", func := "example.com/keelmark/keelmark/zzlaws_document_b1.FnDestinationShape", spec := "fnDestinationShape", inPlace := ["internal/bytealg.IndexByteString"], make := .lifted ["publicsums"], apart := false }
def FnDestinationShapeSaid : Prop := fnDestinationShapeRow.holds Trym.pinned (OpenSpec.ofChange fnDestinationShapeSpec)

/-- ITS FALSE NEIGHBOUR: 'it returns false'. Refute it at one input. -/
def fnDestinationShapeWrong : ChangeSpec := { name := "fnDestinationShape", fn := fun _ => fun
  | [d] => { results := [.lit (.bool false)], args := [d] }
  | _ => none }
def FnDestinationShapeWrongFalsely : Prop := fnDestinationShapeRow.holds Trym.pinned (OpenSpec.ofChange fnDestinationShapeWrong)

/-- 'zzlaws_document_b1.FnDestinationStableUnderSuffix': WHATEVER THE INPUT: true; the input reads as it did. -/
def fnDestinationStableUnderSuffixSpec : ChangeSpec := { name := "fnDestinationStableUnderSuffix", fn := fun _ => fun
  | [d1, d2] => { results := [.lit (.bool true)], args := [d1, d2] }
  | _ => none }
def fnDestinationStableUnderSuffixRow : OpenClaim := { program := "qxb6001219amods", sum := "f2d3437f3632407dbcc7a33bab99e16245e66b0bc7044290150fee8e32ffe380", func := "example.com/keelmark/keelmark/zzlaws_document_b1.FnDestinationStableUnderSuffix", spec := "fnDestinationStableUnderSuffix", inPlace := ["internal/bytealg.IndexByteString"], make := .lifted ["publicsums"], apart := false }
def FnDestinationStableUnderSuffixSaid : Prop := fnDestinationStableUnderSuffixRow.holds Trym.pinned (OpenSpec.ofChange fnDestinationStableUnderSuffixSpec)

/-- ITS FALSE NEIGHBOUR: 'it returns false'. Refute it at one input. -/
def fnDestinationStableUnderSuffixWrong : ChangeSpec := { name := "fnDestinationStableUnderSuffix", fn := fun _ => fun
  | [d1, d2] => { results := [.lit (.bool false)], args := [d1, d2] }
  | _ => none }
def FnDestinationStableUnderSuffixWrongFalsely : Prop := fnDestinationStableUnderSuffixRow.holds Trym.pinned (OpenSpec.ofChange fnDestinationStableUnderSuffixWrong)

/-- 'zzlaws_document_b1.FnDestinationBuilt': WHATEVER THE INPUT: true; the input reads as it did. -/
def fnDestinationBuiltSpec : ChangeSpec := { name := "fnDestinationBuilt", fn := fun _ => fun
  | [d1, d2, d3] => { results := [.lit (.bool true)], args := [d1, d2, d3] }
  | _ => none }
def fnDestinationBuiltRow : OpenClaim := { program := "qxb6001219amods", sum := "f2d3437f3632407dbcc7a33bab99e16245e66b0bc7044290150fee8e32ffe380", func := "example.com/keelmark/keelmark/zzlaws_document_b1.FnDestinationBuilt", spec := "fnDestinationBuilt", inPlace := ["internal/bytealg.IndexByteString"], make := .lifted ["publicsums"], apart := false }
def FnDestinationBuiltSaid : Prop := fnDestinationBuiltRow.holds Trym.pinned (OpenSpec.ofChange fnDestinationBuiltSpec)

/-- ITS FALSE NEIGHBOUR: 'it returns false'. Refute it at one input. -/
def fnDestinationBuiltWrong : ChangeSpec := { name := "fnDestinationBuilt", fn := fun _ => fun
  | [d1, d2, d3] => { results := [.lit (.bool false)], args := [d1, d2, d3] }
  | _ => none }
def FnDestinationBuiltWrongFalsely : Prop := fnDestinationBuiltRow.holds Trym.pinned (OpenSpec.ofChange fnDestinationBuiltWrong)

end Rows
end Go.Proofs.Qxb6001219aMods
