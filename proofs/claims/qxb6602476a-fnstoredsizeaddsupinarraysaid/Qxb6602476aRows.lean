/-
  No cell of these rows narrows 'for every input' (looked for: loops, veiled, ifaces, maps, wideKeys, modest, calm, conditions, laid).
  DERIVED. THE GIVEN ROWS OF THIS SEAT. 8 by the template 'for every input the law returns true; each argument reads behind the call as it read before'; 0 by the template 'total and deterministic' (their statements: Qxb6602476aTotals.lean).
  GIVEN WITH THE SEED: the statements are not yours to turn. If you find one false, say at which input.
  Laid BY PROGRAM, IN A SANDBOX (cutbox-rows.mjs): the forced cells as the released guide's own fill.sh prints them over the translation 4d0c8d497c4120dc… (all of the seat's roots in one cut). By AI agents, Wed Nov 11 2026. No macro, syntax, notation, axiom, sorry.
-/
import Derived.Test.Qxb6602476aChecked
import GoSem.Claim
import GoSem.ClaimJoined
import GoSem.ClaimMapViews
import Derived.JoinedTies
import Derived.KernelRfl
namespace Go.Proofs.Qxb6602476a
/- THE CELL 'sum', in the pinned program and in every row, IS THE sha256 OF THE DUMP (.gsa) THAT Qxb6602476aProg.lean LOADS. Nothing in Lean hashes anything: it is a label: what it is worth is what the hold of that sum in a sandbox is worth. -/
noncomputable def Try.pinned : Pinned := { name := "qxb6602476a", sum := "4d0c8d497c4120dc9969acb323dbe6847b92b1c808e55b7f0684e361ed71046c", checked := Try.checked }
namespace Rows
def none {H : Type} : Left H := { results := [], args := [] }

/-- 'zzlaws_root_b1.FnParseExponentMatchesClampedValue': WHATEVER THE INPUT: true; the input reads as it did. -/
def fnParseExponentMatchesClampedValueSpec : ChangeSpec := { name := "fnParseExponentMatchesClampedValue", fn := fun _ => fun
  | [d] => { results := [.lit (.bool true)], args := [d] }
  | _ => none }
def fnParseExponentMatchesClampedValueRow : OpenClaim := { program := "qxb6602476a", sum := "4d0c8d497c4120dc9969acb323dbe6847b92b1c808e55b7f0684e361ed71046c", func := "example.com/holdfast/holdfast/zzlaws_root_b1.FnParseExponentMatchesClampedValue", spec := "fnParseExponentMatchesClampedValue", apart := false }
def FnParseExponentMatchesClampedValueSaid : Prop := fnParseExponentMatchesClampedValueRow.holds Try.pinned (OpenSpec.ofChange fnParseExponentMatchesClampedValueSpec)

/-- ITS FALSE NEIGHBOUR: 'it returns false'. Refute it at one input. -/
def fnParseExponentMatchesClampedValueWrong : ChangeSpec := { name := "fnParseExponentMatchesClampedValue", fn := fun _ => fun
  | [d] => { results := [.lit (.bool false)], args := [d] }
  | _ => none }
def FnParseExponentMatchesClampedValueWrongFalsely : Prop := fnParseExponentMatchesClampedValueRow.holds Try.pinned (OpenSpec.ofChange fnParseExponentMatchesClampedValueWrong)

/-- 'zzlaws_root_b1.FnParseExponentStaysWithinBound': WHATEVER THE INPUT: true; the input reads as it did. -/
def fnParseExponentStaysWithinBoundSpec : ChangeSpec := { name := "fnParseExponentStaysWithinBound", fn := fun _ => fun
  | [d] => { results := [.lit (.bool true)], args := [d] }
  | _ => none }
def fnParseExponentStaysWithinBoundRow : OpenClaim := { program := "qxb6602476a", sum := "4d0c8d497c4120dc9969acb323dbe6847b92b1c808e55b7f0684e361ed71046c", func := "example.com/holdfast/holdfast/zzlaws_root_b1.FnParseExponentStaysWithinBound", spec := "fnParseExponentStaysWithinBound", apart := false }
def FnParseExponentStaysWithinBoundSaid : Prop := fnParseExponentStaysWithinBoundRow.holds Try.pinned (OpenSpec.ofChange fnParseExponentStaysWithinBoundSpec)

/-- ITS FALSE NEIGHBOUR: 'it returns false'. Refute it at one input. -/
def fnParseExponentStaysWithinBoundWrong : ChangeSpec := { name := "fnParseExponentStaysWithinBound", fn := fun _ => fun
  | [d] => { results := [.lit (.bool false)], args := [d] }
  | _ => none }
def FnParseExponentStaysWithinBoundWrongFalsely : Prop := fnParseExponentStaysWithinBoundRow.holds Try.pinned (OpenSpec.ofChange fnParseExponentStaysWithinBoundWrong)

/-- 'zzlaws_root_b1.FnParseExponentSignOnlyFlips': WHATEVER THE INPUT: true; the input reads as it did. -/
def fnParseExponentSignOnlyFlipsSpec : ChangeSpec := { name := "fnParseExponentSignOnlyFlips", fn := fun _ => fun
  | [d] => { results := [.lit (.bool true)], args := [d] }
  | _ => none }
def fnParseExponentSignOnlyFlipsRow : OpenClaim := { program := "qxb6602476a", sum := "4d0c8d497c4120dc9969acb323dbe6847b92b1c808e55b7f0684e361ed71046c", func := "example.com/holdfast/holdfast/zzlaws_root_b1.FnParseExponentSignOnlyFlips", spec := "fnParseExponentSignOnlyFlips", apart := false }
def FnParseExponentSignOnlyFlipsSaid : Prop := fnParseExponentSignOnlyFlipsRow.holds Try.pinned (OpenSpec.ofChange fnParseExponentSignOnlyFlipsSpec)

/-- ITS FALSE NEIGHBOUR: 'it returns false'. Refute it at one input. -/
def fnParseExponentSignOnlyFlipsWrong : ChangeSpec := { name := "fnParseExponentSignOnlyFlips", fn := fun _ => fun
  | [d] => { results := [.lit (.bool false)], args := [d] }
  | _ => none }
def FnParseExponentSignOnlyFlipsWrongFalsely : Prop := fnParseExponentSignOnlyFlipsRow.holds Try.pinned (OpenSpec.ofChange fnParseExponentSignOnlyFlipsWrong)

/-- 'zzlaws_root_b1.FnNumberSizeMatchesDecimalModel': WHATEVER THE INPUT: true; the input reads as it did. -/
def fnNumberSizeMatchesDecimalModelSpec : ChangeSpec := { name := "fnNumberSizeMatchesDecimalModel", fn := fun _ => fun
  | [d] => { results := [.lit (.bool true)], args := [d] }
  | _ => none }
def fnNumberSizeMatchesDecimalModelRow : OpenClaim := { program := "qxb6602476a", sum := "4d0c8d497c4120dc9969acb323dbe6847b92b1c808e55b7f0684e361ed71046c", func := "example.com/holdfast/holdfast/zzlaws_root_b1.FnNumberSizeMatchesDecimalModel", spec := "fnNumberSizeMatchesDecimalModel", inPlace := ["internal/bytealg.IndexByte"], apart := false }
def FnNumberSizeMatchesDecimalModelSaid : Prop := fnNumberSizeMatchesDecimalModelRow.holds Try.pinned (OpenSpec.ofChange fnNumberSizeMatchesDecimalModelSpec)

/-- ITS FALSE NEIGHBOUR: 'it returns false'. Refute it at one input. -/
def fnNumberSizeMatchesDecimalModelWrong : ChangeSpec := { name := "fnNumberSizeMatchesDecimalModel", fn := fun _ => fun
  | [d] => { results := [.lit (.bool false)], args := [d] }
  | _ => none }
def FnNumberSizeMatchesDecimalModelWrongFalsely : Prop := fnNumberSizeMatchesDecimalModelRow.holds Try.pinned (OpenSpec.ofChange fnNumberSizeMatchesDecimalModelWrong)

/-- 'zzlaws_root_b1.FnNumberSizePlainDecimalKeepsLength': WHATEVER THE INPUT: true; the input reads as it did. -/
def fnNumberSizePlainDecimalKeepsLengthSpec : ChangeSpec := { name := "fnNumberSizePlainDecimalKeepsLength", fn := fun _ => fun
  | [d] => { results := [.lit (.bool true)], args := [d] }
  | _ => none }
def fnNumberSizePlainDecimalKeepsLengthRow : OpenClaim := { program := "qxb6602476a", sum := "4d0c8d497c4120dc9969acb323dbe6847b92b1c808e55b7f0684e361ed71046c", func := "example.com/holdfast/holdfast/zzlaws_root_b1.FnNumberSizePlainDecimalKeepsLength", spec := "fnNumberSizePlainDecimalKeepsLength", inPlace := ["internal/bytealg.IndexByte"], apart := false }
def FnNumberSizePlainDecimalKeepsLengthSaid : Prop := fnNumberSizePlainDecimalKeepsLengthRow.holds Try.pinned (OpenSpec.ofChange fnNumberSizePlainDecimalKeepsLengthSpec)

/-- ITS FALSE NEIGHBOUR: 'it returns false'. Refute it at one input. -/
def fnNumberSizePlainDecimalKeepsLengthWrong : ChangeSpec := { name := "fnNumberSizePlainDecimalKeepsLength", fn := fun _ => fun
  | [d] => { results := [.lit (.bool false)], args := [d] }
  | _ => none }
def FnNumberSizePlainDecimalKeepsLengthWrongFalsely : Prop := fnNumberSizePlainDecimalKeepsLengthRow.holds Try.pinned (OpenSpec.ofChange fnNumberSizePlainDecimalKeepsLengthWrong)

/-- 'zzlaws_root_b1.FnNumberSizeMinusAddsOneUnlessZero': WHATEVER THE INPUT: true; the input reads as it did. -/
def fnNumberSizeMinusAddsOneUnlessZeroSpec : ChangeSpec := { name := "fnNumberSizeMinusAddsOneUnlessZero", fn := fun _ => fun
  | [d] => { results := [.lit (.bool true)], args := [d] }
  | _ => none }
def fnNumberSizeMinusAddsOneUnlessZeroRow : OpenClaim := { program := "qxb6602476a", sum := "4d0c8d497c4120dc9969acb323dbe6847b92b1c808e55b7f0684e361ed71046c", func := "example.com/holdfast/holdfast/zzlaws_root_b1.FnNumberSizeMinusAddsOneUnlessZero", spec := "fnNumberSizeMinusAddsOneUnlessZero", inPlace := ["internal/bytealg.IndexByte"], apart := false }
def FnNumberSizeMinusAddsOneUnlessZeroSaid : Prop := fnNumberSizeMinusAddsOneUnlessZeroRow.holds Try.pinned (OpenSpec.ofChange fnNumberSizeMinusAddsOneUnlessZeroSpec)

/-- ITS FALSE NEIGHBOUR: 'it returns false'. Refute it at one input. -/
def fnNumberSizeMinusAddsOneUnlessZeroWrong : ChangeSpec := { name := "fnNumberSizeMinusAddsOneUnlessZero", fn := fun _ => fun
  | [d] => { results := [.lit (.bool false)], args := [d] }
  | _ => none }
def FnNumberSizeMinusAddsOneUnlessZeroWrongFalsely : Prop := fnNumberSizeMinusAddsOneUnlessZeroRow.holds Try.pinned (OpenSpec.ofChange fnNumberSizeMinusAddsOneUnlessZeroWrong)

/-- 'zzlaws_root_b1.FnStoredSizeMatchesCompactModel': WHATEVER THE INPUT: true; the input reads as it did. -/
def fnStoredSizeMatchesCompactModelSpec : ChangeSpec := { name := "fnStoredSizeMatchesCompactModel", fn := fun _ => fun
  | [d] => { results := [.lit (.bool true)], args := [d] }
  | _ => none }
def fnStoredSizeMatchesCompactModelRow : OpenClaim := { program := "qxb6602476a", sum := "4d0c8d497c4120dc9969acb323dbe6847b92b1c808e55b7f0684e361ed71046c", func := "example.com/holdfast/holdfast/zzlaws_root_b1.FnStoredSizeMatchesCompactModel", spec := "fnStoredSizeMatchesCompactModel", inPlace := ["internal/bytealg.IndexByteString", "internal/bytealg.IndexByte"], apart := false }
def FnStoredSizeMatchesCompactModelSaid : Prop := fnStoredSizeMatchesCompactModelRow.holds Try.pinned (OpenSpec.ofChange fnStoredSizeMatchesCompactModelSpec)

/-- ITS FALSE NEIGHBOUR: 'it returns false'. Refute it at one input. -/
def fnStoredSizeMatchesCompactModelWrong : ChangeSpec := { name := "fnStoredSizeMatchesCompactModel", fn := fun _ => fun
  | [d] => { results := [.lit (.bool false)], args := [d] }
  | _ => none }
def FnStoredSizeMatchesCompactModelWrongFalsely : Prop := fnStoredSizeMatchesCompactModelRow.holds Try.pinned (OpenSpec.ofChange fnStoredSizeMatchesCompactModelWrong)

/-- 'zzlaws_root_b1.FnStoredSizeAddsUpInArray': WHATEVER THE INPUT: true; the input reads as it did. -/
def fnStoredSizeAddsUpInArraySpec : ChangeSpec := { name := "fnStoredSizeAddsUpInArray", fn := fun _ => fun
  | [d1, d2] => { results := [.lit (.bool true)], args := [d1, d2] }
  | _ => none }
def fnStoredSizeAddsUpInArrayRow : OpenClaim := { program := "qxb6602476a", sum := "4d0c8d497c4120dc9969acb323dbe6847b92b1c808e55b7f0684e361ed71046c", func := "example.com/holdfast/holdfast/zzlaws_root_b1.FnStoredSizeAddsUpInArray", spec := "fnStoredSizeAddsUpInArray", inPlace := ["internal/bytealg.IndexByteString", "internal/bytealg.IndexByte"], apart := false }
def FnStoredSizeAddsUpInArraySaid : Prop := fnStoredSizeAddsUpInArrayRow.holds Try.pinned (OpenSpec.ofChange fnStoredSizeAddsUpInArraySpec)

/-- ITS FALSE NEIGHBOUR: 'it returns false'. Refute it at one input. -/
def fnStoredSizeAddsUpInArrayWrong : ChangeSpec := { name := "fnStoredSizeAddsUpInArray", fn := fun _ => fun
  | [d1, d2] => { results := [.lit (.bool false)], args := [d1, d2] }
  | _ => none }
def FnStoredSizeAddsUpInArrayWrongFalsely : Prop := fnStoredSizeAddsUpInArrayRow.holds Try.pinned (OpenSpec.ofChange fnStoredSizeAddsUpInArrayWrong)

end Rows
end Go.Proofs.Qxb6602476a
