/-
  No cell of these rows narrows 'for every input' (looked for: loops, veiled, ifaces, maps, wideKeys, modest, calm, conditions, laid).
  DERIVED. THE GIVEN ROWS OF THIS SEAT. 7 by the template 'for every input the law returns true; each argument reads behind the call as it read before'; 0 by the template 'total and deterministic' (their statements: Qxb6001230aModsTotals.lean).
  GIVEN WITH THE SEED: the statements are not yours to turn. If you find one false, say at which input.
  Laid BY PROGRAM, IN A SANDBOX (cutbox-rows.mjs): the forced cells as the released guide's own fill.sh prints them over the translation ea0824ba9d1438e1… (all of the seat's roots in one cut). By AI agents, Wed Nov 11 2026. No macro, syntax, notation, axiom, sorry.
-/
import Derived.Test.Qxb6001230aModsChecked
import GoSem.Claim
import GoSem.ClaimJoined
import GoSem.ClaimMapViews
import Derived.JoinedTies
import Derived.KernelRfl
namespace Go.Proofs.Qxb6001230aMods
/- THE CELL 'sum', in the pinned program and in every row, IS THE sha256 OF THE DUMP (.gsa) THAT Qxb6001230aModsProg.lean LOADS. Nothing in Lean hashes anything: it is a label: what it is worth is what the hold of that sum in a sandbox is worth. -/
noncomputable def Trym.pinned : Pinned := { name := "qxb6001230amods", sum := "ea0824ba9d1438e147f4e87a31046835df04bc017a5d6bfdc419329bc4950d36", checked := Trym.checked }
namespace Rows
def none {H : Type} : Left H := { results := [], args := [] }

/-- 'zzlaws_pkg_electrum_b1.FnValueEndBoundsAndRefusal': WHATEVER THE INPUT: true; the input reads as it did. -/
def fnValueEndBoundsAndRefusalSpec : ChangeSpec := { name := "fnValueEndBoundsAndRefusal", fn := fun _ => fun
  | [d1, d2] => { results := [.lit (.bool true)], args := [d1, d2] }
  | _ => none }
def fnValueEndBoundsAndRefusalRow : OpenClaim := { program := "qxb6001230amods", sum := "ea0824ba9d1438e147f4e87a31046835df04bc017a5d6bfdc419329bc4950d36", func := "example.com/kindling/kindling/zzlaws_pkg_electrum_b1.FnValueEndBoundsAndRefusal", spec := "fnValueEndBoundsAndRefusal", inPlace := ["internal/bytealg.IndexByteString"], make := .lifted ["publicsums"], apart := false }
def FnValueEndBoundsAndRefusalSaid : Prop := fnValueEndBoundsAndRefusalRow.holds Trym.pinned (OpenSpec.ofChange fnValueEndBoundsAndRefusalSpec)

/-- ITS FALSE NEIGHBOUR: 'it returns false'. Refute it at one input. -/
def fnValueEndBoundsAndRefusalWrong : ChangeSpec := { name := "fnValueEndBoundsAndRefusal", fn := fun _ => fun
  | [d1, d2] => { results := [.lit (.bool false)], args := [d1, d2] }
  | _ => none }
def FnValueEndBoundsAndRefusalWrongFalsely : Prop := fnValueEndBoundsAndRefusalRow.holds Trym.pinned (OpenSpec.ofChange fnValueEndBoundsAndRefusalWrong)

/-- 'zzlaws_pkg_electrum_b1.FnValueEndFindsEndOfEncodedString': WHATEVER THE INPUT: true; the input reads as it did. -/
def fnValueEndFindsEndOfEncodedStringSpec : ChangeSpec := { name := "fnValueEndFindsEndOfEncodedString", fn := fun _ => fun
  | [d1, d2, d3, d4] => { results := [.lit (.bool true)], args := [d1, d2, d3, d4] }
  | _ => none }
def fnValueEndFindsEndOfEncodedStringRow : OpenClaim := { program := "qxb6001230amods", sum := "ea0824ba9d1438e147f4e87a31046835df04bc017a5d6bfdc419329bc4950d36", func := "example.com/kindling/kindling/zzlaws_pkg_electrum_b1.FnValueEndFindsEndOfEncodedString", spec := "fnValueEndFindsEndOfEncodedString", inPlace := ["internal/bytealg.IndexByteString"], make := .lifted ["publicsums"], apart := false }
def FnValueEndFindsEndOfEncodedStringSaid : Prop := fnValueEndFindsEndOfEncodedStringRow.holds Trym.pinned (OpenSpec.ofChange fnValueEndFindsEndOfEncodedStringSpec)

/-- ITS FALSE NEIGHBOUR: 'it returns false'. Refute it at one input. -/
def fnValueEndFindsEndOfEncodedStringWrong : ChangeSpec := { name := "fnValueEndFindsEndOfEncodedString", fn := fun _ => fun
  | [d1, d2, d3, d4] => { results := [.lit (.bool false)], args := [d1, d2, d3, d4] }
  | _ => none }
def FnValueEndFindsEndOfEncodedStringWrongFalsely : Prop := fnValueEndFindsEndOfEncodedStringRow.holds Trym.pinned (OpenSpec.ofChange fnValueEndFindsEndOfEncodedStringWrong)

/-- 'zzlaws_pkg_electrum_b1.FnValueEndDependsOnlyOnBytesUpToIt': WHATEVER THE INPUT: true; the input reads as it did. -/
def fnValueEndDependsOnlyOnBytesUpToItSpec : ChangeSpec := { name := "fnValueEndDependsOnlyOnBytesUpToIt", fn := fun _ => fun
  | [d1, d2, d3] => { results := [.lit (.bool true)], args := [d1, d2, d3] }
  | _ => none }
def fnValueEndDependsOnlyOnBytesUpToItRow : OpenClaim := { program := "qxb6001230amods", sum := "ea0824ba9d1438e147f4e87a31046835df04bc017a5d6bfdc419329bc4950d36", func := "example.com/kindling/kindling/zzlaws_pkg_electrum_b1.FnValueEndDependsOnlyOnBytesUpToIt", spec := "fnValueEndDependsOnlyOnBytesUpToIt", inPlace := ["internal/bytealg.IndexByteString"], make := .lifted ["publicsums"], apart := false }
def FnValueEndDependsOnlyOnBytesUpToItSaid : Prop := fnValueEndDependsOnlyOnBytesUpToItRow.holds Trym.pinned (OpenSpec.ofChange fnValueEndDependsOnlyOnBytesUpToItSpec)

/-- ITS FALSE NEIGHBOUR: 'it returns false'. Refute it at one input. -/
def fnValueEndDependsOnlyOnBytesUpToItWrong : ChangeSpec := { name := "fnValueEndDependsOnlyOnBytesUpToIt", fn := fun _ => fun
  | [d1, d2, d3] => { results := [.lit (.bool false)], args := [d1, d2, d3] }
  | _ => none }
def FnValueEndDependsOnlyOnBytesUpToItWrongFalsely : Prop := fnValueEndDependsOnlyOnBytesUpToItRow.holds Trym.pinned (OpenSpec.ofChange fnValueEndDependsOnlyOnBytesUpToItWrong)

/-- 'zzlaws_pkg_electrum_b1.FnVersionCompareAntisymmetric': WHATEVER THE INPUT: true; the input reads as it did. -/
def fnVersionCompareAntisymmetricSpec : ChangeSpec := { name := "fnVersionCompareAntisymmetric", fn := fun _ => fun
  | [d1, d2] => { results := [.lit (.bool true)], args := [d1, d2] }
  | _ => none }
def fnVersionCompareAntisymmetricRow : OpenClaim := { program := "qxb6001230amods", sum := "ea0824ba9d1438e147f4e87a31046835df04bc017a5d6bfdc419329bc4950d36", func := "example.com/kindling/kindling/zzlaws_pkg_electrum_b1.FnVersionCompareAntisymmetric", spec := "fnVersionCompareAntisymmetric", make := .lifted ["publicsums"], apart := false }
def FnVersionCompareAntisymmetricSaid : Prop := fnVersionCompareAntisymmetricRow.holds Trym.pinned (OpenSpec.ofChange fnVersionCompareAntisymmetricSpec)

/-- ITS FALSE NEIGHBOUR: 'it returns false'. Refute it at one input. -/
def fnVersionCompareAntisymmetricWrong : ChangeSpec := { name := "fnVersionCompareAntisymmetric", fn := fun _ => fun
  | [d1, d2] => { results := [.lit (.bool false)], args := [d1, d2] }
  | _ => none }
def FnVersionCompareAntisymmetricWrongFalsely : Prop := fnVersionCompareAntisymmetricRow.holds Trym.pinned (OpenSpec.ofChange fnVersionCompareAntisymmetricWrong)

/-- 'zzlaws_pkg_electrum_b1.FnVersionCompareZeroIffSameAfterTrailingZeros': WHATEVER THE INPUT: true; the input reads as it did. -/
def fnVersionCompareZeroIffSameAfterTrailingZerosSpec : ChangeSpec := { name := "fnVersionCompareZeroIffSameAfterTrailingZeros", fn := fun _ => fun
  | [d1, d2] => { results := [.lit (.bool true)], args := [d1, d2] }
  | _ => none }
def fnVersionCompareZeroIffSameAfterTrailingZerosRow : OpenClaim := { program := "qxb6001230amods", sum := "ea0824ba9d1438e147f4e87a31046835df04bc017a5d6bfdc419329bc4950d36", func := "example.com/kindling/kindling/zzlaws_pkg_electrum_b1.FnVersionCompareZeroIffSameAfterTrailingZeros", spec := "fnVersionCompareZeroIffSameAfterTrailingZeros", make := .lifted ["publicsums"], apart := false }
def FnVersionCompareZeroIffSameAfterTrailingZerosSaid : Prop := fnVersionCompareZeroIffSameAfterTrailingZerosRow.holds Trym.pinned (OpenSpec.ofChange fnVersionCompareZeroIffSameAfterTrailingZerosSpec)

/-- ITS FALSE NEIGHBOUR: 'it returns false'. Refute it at one input. -/
def fnVersionCompareZeroIffSameAfterTrailingZerosWrong : ChangeSpec := { name := "fnVersionCompareZeroIffSameAfterTrailingZeros", fn := fun _ => fun
  | [d1, d2] => { results := [.lit (.bool false)], args := [d1, d2] }
  | _ => none }
def FnVersionCompareZeroIffSameAfterTrailingZerosWrongFalsely : Prop := fnVersionCompareZeroIffSameAfterTrailingZerosRow.holds Trym.pinned (OpenSpec.ofChange fnVersionCompareZeroIffSameAfterTrailingZerosWrong)

/-- 'zzlaws_pkg_electrum_b1.FnVersionCompareTransitive': WHATEVER THE INPUT: true; the input reads as it did. -/
def fnVersionCompareTransitiveSpec : ChangeSpec := { name := "fnVersionCompareTransitive", fn := fun _ => fun
  | [d1, d2, d3] => { results := [.lit (.bool true)], args := [d1, d2, d3] }
  | _ => none }
def fnVersionCompareTransitiveRow : OpenClaim := { program := "qxb6001230amods", sum := "ea0824ba9d1438e147f4e87a31046835df04bc017a5d6bfdc419329bc4950d36", func := "example.com/kindling/kindling/zzlaws_pkg_electrum_b1.FnVersionCompareTransitive", spec := "fnVersionCompareTransitive", make := .lifted ["publicsums"], apart := false }
def FnVersionCompareTransitiveSaid : Prop := fnVersionCompareTransitiveRow.holds Trym.pinned (OpenSpec.ofChange fnVersionCompareTransitiveSpec)

/-- ITS FALSE NEIGHBOUR: 'it returns false'. Refute it at one input. -/
def fnVersionCompareTransitiveWrong : ChangeSpec := { name := "fnVersionCompareTransitive", fn := fun _ => fun
  | [d1, d2, d3] => { results := [.lit (.bool false)], args := [d1, d2, d3] }
  | _ => none }
def FnVersionCompareTransitiveWrongFalsely : Prop := fnVersionCompareTransitiveRow.holds Trym.pinned (OpenSpec.ofChange fnVersionCompareTransitiveWrong)

/-- 'zzlaws_pkg_electrum_b1.FnPortsOfReadsBack': WHATEVER THE INPUT: true; the input reads as it did. -/
def fnPortsOfReadsBackSpec : ChangeSpec := { name := "fnPortsOfReadsBack", fn := fun _ => fun
  | [d1, d2] => { results := [.lit (.bool true)], args := [d1, d2] }
  | _ => none }
def fnPortsOfReadsBackRow : OpenClaim := { program := "qxb6001230amods", sum := "ea0824ba9d1438e147f4e87a31046835df04bc017a5d6bfdc419329bc4950d36", func := "example.com/kindling/kindling/zzlaws_pkg_electrum_b1.FnPortsOfReadsBack", spec := "fnPortsOfReadsBack", make := .lifted ["publicsums"], apart := false }
def FnPortsOfReadsBackSaid : Prop := fnPortsOfReadsBackRow.holds Trym.pinned (OpenSpec.ofChange fnPortsOfReadsBackSpec)

/-- ITS FALSE NEIGHBOUR: 'it returns false'. Refute it at one input. -/
def fnPortsOfReadsBackWrong : ChangeSpec := { name := "fnPortsOfReadsBack", fn := fun _ => fun
  | [d1, d2] => { results := [.lit (.bool false)], args := [d1, d2] }
  | _ => none }
def FnPortsOfReadsBackWrongFalsely : Prop := fnPortsOfReadsBackRow.holds Trym.pinned (OpenSpec.ofChange fnPortsOfReadsBackWrong)

end Rows
end Go.Proofs.Qxb6001230aMods
