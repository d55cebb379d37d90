/-
  No cell of these rows narrows 'for every input' (looked for: loops, veiled, ifaces, maps, wideKeys, modest, calm, conditions, laid).
  DERIVED. THE GIVEN ROWS OF THIS SEAT. 9 by the template 'for every input the law returns true; each argument reads behind the call as it read before'; 0 by the template 'total and deterministic' (their statements: Qxb6602360aTotals.lean).
  GIVEN WITH THE SEED: the statements are not yours to turn. If you find one false, say at which input.
  Laid BY PROGRAM, IN A SANDBOX (cutbox-rows.mjs): the forced cells as the released guide's own fill.sh prints them over the translation 4d6f1bd3f71d89e7… (all of the seat's roots in one cut). By AI agents, Wed Nov 11 2026. No macro, syntax, notation, axiom, sorry.
-/
import Derived.Test.Qxb6602360aChecked
import GoSem.Claim
import GoSem.ClaimJoined
import GoSem.ClaimMapViews
import Derived.JoinedTies
import Derived.KernelRfl
namespace Go.Proofs.Qxb6602360a
/- THE CELL 'sum', in the pinned program and in every row, IS THE sha256 OF THE DUMP (.gsa) THAT Qxb6602360aProg.lean LOADS. Nothing in Lean hashes anything: it is a label: what it is worth is what the hold of that sum in a sandbox is worth. -/
noncomputable def Try.pinned : Pinned := { name := "qxb6602360a", sum := "4d6f1bd3f71d89e70d0a4b0cc89ec6360ac4c6ff25d2daf14a9ed2676d55665e", checked := Try.checked }
namespace Rows
def none {H : Type} : Left H := { results := [], args := [] }

/-- 'zzlaws_root_b1.FnAddClassTable': WHATEVER THE INPUT: true; the input reads as it did. -/
def fnAddClassTableSpec : ChangeSpec := { name := "fnAddClassTable", fn := fun _ => fun
  | [d1, d2] => { results := [.lit (.bool true)], args := [d1, d2] }
  | _ => none }
def fnAddClassTableRow : OpenClaim := { program := "qxb6602360a", sum := "4d6f1bd3f71d89e70d0a4b0cc89ec6360ac4c6ff25d2daf14a9ed2676d55665e", func := "example.com/scopewright/scopewright/zzlaws_root_b1.FnAddClassTable", spec := "fnAddClassTable", unfollowed := true, recurses := true, apart := false }
def FnAddClassTableSaid : Prop := fnAddClassTableRow.holds Try.pinned (OpenSpec.ofChange fnAddClassTableSpec)

/-- ITS FALSE NEIGHBOUR: 'it returns false'. Refute it at one input. -/
def fnAddClassTableWrong : ChangeSpec := { name := "fnAddClassTable", fn := fun _ => fun
  | [d1, d2] => { results := [.lit (.bool false)], args := [d1, d2] }
  | _ => none }
def FnAddClassTableWrongFalsely : Prop := fnAddClassTableRow.holds Try.pinned (OpenSpec.ofChange fnAddClassTableWrong)

/-- 'zzlaws_root_b1.FnAddClassCommutesIdempotent': WHATEVER THE INPUT: true; the input reads as it did. -/
def fnAddClassCommutesIdempotentSpec : ChangeSpec := { name := "fnAddClassCommutesIdempotent", fn := fun _ => fun
  | [d1, d2, d3, d4] => { results := [.lit (.bool true)], args := [d1, d2, d3, d4] }
  | _ => none }
def fnAddClassCommutesIdempotentRow : OpenClaim := { program := "qxb6602360a", sum := "4d6f1bd3f71d89e70d0a4b0cc89ec6360ac4c6ff25d2daf14a9ed2676d55665e", func := "example.com/scopewright/scopewright/zzlaws_root_b1.FnAddClassCommutesIdempotent", spec := "fnAddClassCommutesIdempotent", unfollowed := true, recurses := true, apart := false }
def FnAddClassCommutesIdempotentSaid : Prop := fnAddClassCommutesIdempotentRow.holds Try.pinned (OpenSpec.ofChange fnAddClassCommutesIdempotentSpec)

/-- ITS FALSE NEIGHBOUR: 'it returns false'. Refute it at one input. -/
def fnAddClassCommutesIdempotentWrong : ChangeSpec := { name := "fnAddClassCommutesIdempotent", fn := fun _ => fun
  | [d1, d2, d3, d4] => { results := [.lit (.bool false)], args := [d1, d2, d3, d4] }
  | _ => none }
def FnAddClassCommutesIdempotentWrongFalsely : Prop := fnAddClassCommutesIdempotentRow.holds Try.pinned (OpenSpec.ofChange fnAddClassCommutesIdempotentWrong)

/-- 'zzlaws_root_b1.FnAddClassAlgebra': WHATEVER THE INPUT: true; the input reads as it did. -/
def fnAddClassAlgebraSpec : ChangeSpec := { name := "fnAddClassAlgebra", fn := fun _ => fun
  | [d] => { results := [.lit (.bool true)], args := [d] }
  | _ => none }
def fnAddClassAlgebraRow : OpenClaim := { program := "qxb6602360a", sum := "4d6f1bd3f71d89e70d0a4b0cc89ec6360ac4c6ff25d2daf14a9ed2676d55665e", func := "example.com/scopewright/scopewright/zzlaws_root_b1.FnAddClassAlgebra", spec := "fnAddClassAlgebra", unfollowed := true, recurses := true, apart := false }
def FnAddClassAlgebraSaid : Prop := fnAddClassAlgebraRow.holds Try.pinned (OpenSpec.ofChange fnAddClassAlgebraSpec)

/-- ITS FALSE NEIGHBOUR: 'it returns false'. Refute it at one input. -/
def fnAddClassAlgebraWrong : ChangeSpec := { name := "fnAddClassAlgebra", fn := fun _ => fun
  | [d] => { results := [.lit (.bool false)], args := [d] }
  | _ => none }
def FnAddClassAlgebraWrongFalsely : Prop := fnAddClassAlgebraRow.holds Try.pinned (OpenSpec.ofChange fnAddClassAlgebraWrong)

/-- 'zzlaws_root_b1.FnParseBracketFoldCase': WHATEVER THE INPUT: true; the input reads as it did. -/
def fnParseBracketFoldCaseSpec : ChangeSpec := { name := "fnParseBracketFoldCase", fn := fun _ => fun
  | [d] => { results := [.lit (.bool true)], args := [d] }
  | _ => none }
def fnParseBracketFoldCaseRow : OpenClaim := { program := "qxb6602360a", sum := "4d6f1bd3f71d89e70d0a4b0cc89ec6360ac4c6ff25d2daf14a9ed2676d55665e", func := "example.com/scopewright/scopewright/zzlaws_root_b1.FnParseBracketFoldCase", spec := "fnParseBracketFoldCase", inPlace := ["internal/bytealg.IndexByteString", "internal/bytealg.IndexString"], unfollowed := true, recurses := true, named := ["internal/bytealg.MaxLen"], apart := false }
def FnParseBracketFoldCaseSaid : Prop := fnParseBracketFoldCaseRow.holds Try.pinned (OpenSpec.ofChange fnParseBracketFoldCaseSpec)

/-- ITS FALSE NEIGHBOUR: 'it returns false'. Refute it at one input. -/
def fnParseBracketFoldCaseWrong : ChangeSpec := { name := "fnParseBracketFoldCase", fn := fun _ => fun
  | [d] => { results := [.lit (.bool false)], args := [d] }
  | _ => none }
def FnParseBracketFoldCaseWrongFalsely : Prop := fnParseBracketFoldCaseRow.holds Try.pinned (OpenSpec.ofChange fnParseBracketFoldCaseWrong)

/-- 'zzlaws_root_b1.FnParseBracketNegation': WHATEVER THE INPUT: true; the input reads as it did. -/
def fnParseBracketNegationSpec : ChangeSpec := { name := "fnParseBracketNegation", fn := fun _ => fun
  | [d1, d2] => { results := [.lit (.bool true)], args := [d1, d2] }
  | _ => none }
def fnParseBracketNegationRow : OpenClaim := { program := "qxb6602360a", sum := "4d6f1bd3f71d89e70d0a4b0cc89ec6360ac4c6ff25d2daf14a9ed2676d55665e", func := "example.com/scopewright/scopewright/zzlaws_root_b1.FnParseBracketNegation", spec := "fnParseBracketNegation", inPlace := ["internal/bytealg.IndexByteString", "internal/bytealg.IndexString"], unfollowed := true, recurses := true, named := ["internal/bytealg.MaxLen"], apart := false }
def FnParseBracketNegationSaid : Prop := fnParseBracketNegationRow.holds Try.pinned (OpenSpec.ofChange fnParseBracketNegationSpec)

/-- ITS FALSE NEIGHBOUR: 'it returns false'. Refute it at one input. -/
def fnParseBracketNegationWrong : ChangeSpec := { name := "fnParseBracketNegation", fn := fun _ => fun
  | [d1, d2] => { results := [.lit (.bool false)], args := [d1, d2] }
  | _ => none }
def FnParseBracketNegationWrongFalsely : Prop := fnParseBracketNegationRow.holds Try.pinned (OpenSpec.ofChange fnParseBracketNegationWrong)

/-- 'zzlaws_root_b1.FnParseBracketPrefix': WHATEVER THE INPUT: true; the input reads as it did. -/
def fnParseBracketPrefixSpec : ChangeSpec := { name := "fnParseBracketPrefix", fn := fun _ => fun
  | [d1, d2] => { results := [.lit (.bool true)], args := [d1, d2] }
  | _ => none }
def fnParseBracketPrefixRow : OpenClaim := { program := "qxb6602360a", sum := "4d6f1bd3f71d89e70d0a4b0cc89ec6360ac4c6ff25d2daf14a9ed2676d55665e", func := "example.com/scopewright/scopewright/zzlaws_root_b1.FnParseBracketPrefix", spec := "fnParseBracketPrefix", inPlace := ["internal/bytealg.IndexByteString", "internal/bytealg.IndexString"], unfollowed := true, recurses := true, named := ["internal/bytealg.MaxLen"], apart := false }
def FnParseBracketPrefixSaid : Prop := fnParseBracketPrefixRow.holds Try.pinned (OpenSpec.ofChange fnParseBracketPrefixSpec)

/-- ITS FALSE NEIGHBOUR: 'it returns false'. Refute it at one input. -/
def fnParseBracketPrefixWrong : ChangeSpec := { name := "fnParseBracketPrefix", fn := fun _ => fun
  | [d1, d2] => { results := [.lit (.bool false)], args := [d1, d2] }
  | _ => none }
def FnParseBracketPrefixWrongFalsely : Prop := fnParseBracketPrefixRow.holds Try.pinned (OpenSpec.ofChange fnParseBracketPrefixWrong)

/-- 'zzlaws_root_b1.FnCompileGlobConcat': WHATEVER THE INPUT: true; the input reads as it did. -/
def fnCompileGlobConcatSpec : ChangeSpec := { name := "fnCompileGlobConcat", fn := fun _ => fun
  | [d1, d2, d3] => { results := [.lit (.bool true)], args := [d1, d2, d3] }
  | _ => none }
def fnCompileGlobConcatRow : OpenClaim := { program := "qxb6602360a", sum := "4d6f1bd3f71d89e70d0a4b0cc89ec6360ac4c6ff25d2daf14a9ed2676d55665e", func := "example.com/scopewright/scopewright/zzlaws_root_b1.FnCompileGlobConcat", spec := "fnCompileGlobConcat", inPlace := ["internal/bytealg.IndexByteString", "internal/bytealg.IndexString"], unfollowed := true, recurses := true, named := ["internal/bytealg.MaxLen"], apart := false }
def FnCompileGlobConcatSaid : Prop := fnCompileGlobConcatRow.holds Try.pinned (OpenSpec.ofChange fnCompileGlobConcatSpec)

/-- ITS FALSE NEIGHBOUR: 'it returns false'. Refute it at one input. -/
def fnCompileGlobConcatWrong : ChangeSpec := { name := "fnCompileGlobConcat", fn := fun _ => fun
  | [d1, d2, d3] => { results := [.lit (.bool false)], args := [d1, d2, d3] }
  | _ => none }
def FnCompileGlobConcatWrongFalsely : Prop := fnCompileGlobConcatRow.holds Try.pinned (OpenSpec.ofChange fnCompileGlobConcatWrong)

/-- 'zzlaws_root_b1.FnCompileGlobFoldCase': WHATEVER THE INPUT: true; the input reads as it did. -/
def fnCompileGlobFoldCaseSpec : ChangeSpec := { name := "fnCompileGlobFoldCase", fn := fun _ => fun
  | [d] => { results := [.lit (.bool true)], args := [d] }
  | _ => none }
def fnCompileGlobFoldCaseRow : OpenClaim := { program := "qxb6602360a", sum := "4d6f1bd3f71d89e70d0a4b0cc89ec6360ac4c6ff25d2daf14a9ed2676d55665e", func := "example.com/scopewright/scopewright/zzlaws_root_b1.FnCompileGlobFoldCase", spec := "fnCompileGlobFoldCase", inPlace := ["internal/bytealg.IndexByteString", "internal/bytealg.IndexString"], unfollowed := true, recurses := true, named := ["internal/bytealg.MaxLen"], apart := false }
def FnCompileGlobFoldCaseSaid : Prop := fnCompileGlobFoldCaseRow.holds Try.pinned (OpenSpec.ofChange fnCompileGlobFoldCaseSpec)

/-- ITS FALSE NEIGHBOUR: 'it returns false'. Refute it at one input. -/
def fnCompileGlobFoldCaseWrong : ChangeSpec := { name := "fnCompileGlobFoldCase", fn := fun _ => fun
  | [d] => { results := [.lit (.bool false)], args := [d] }
  | _ => none }
def FnCompileGlobFoldCaseWrongFalsely : Prop := fnCompileGlobFoldCaseRow.holds Try.pinned (OpenSpec.ofChange fnCompileGlobFoldCaseWrong)

/-- 'zzlaws_root_b1.FnCompileGlobShape': WHATEVER THE INPUT: true; the input reads as it did. -/
def fnCompileGlobShapeSpec : ChangeSpec := { name := "fnCompileGlobShape", fn := fun _ => fun
  | [d1, d2] => { results := [.lit (.bool true)], args := [d1, d2] }
  | _ => none }
def fnCompileGlobShapeRow : OpenClaim := { program := "qxb6602360a", sum := "4d6f1bd3f71d89e70d0a4b0cc89ec6360ac4c6ff25d2daf14a9ed2676d55665e", func := "example.com/scopewright/scopewright/zzlaws_root_b1.FnCompileGlobShape", spec := "fnCompileGlobShape", inPlace := ["internal/bytealg.IndexByteString", "internal/bytealg.IndexString"], unfollowed := true, recurses := true, named := ["internal/bytealg.MaxLen"], apart := false }
def FnCompileGlobShapeSaid : Prop := fnCompileGlobShapeRow.holds Try.pinned (OpenSpec.ofChange fnCompileGlobShapeSpec)

/-- ITS FALSE NEIGHBOUR: 'it returns false'. Refute it at one input. -/
def fnCompileGlobShapeWrong : ChangeSpec := { name := "fnCompileGlobShape", fn := fun _ => fun
  | [d1, d2] => { results := [.lit (.bool false)], args := [d1, d2] }
  | _ => none }
def FnCompileGlobShapeWrongFalsely : Prop := fnCompileGlobShapeRow.holds Try.pinned (OpenSpec.ofChange fnCompileGlobShapeWrong)

end Rows
end Go.Proofs.Qxb6602360a
