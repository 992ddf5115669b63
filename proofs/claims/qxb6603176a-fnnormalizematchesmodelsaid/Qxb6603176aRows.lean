/-
  No cell of these rows narrows 'for every input' (looked for: loops, veiled, ifaces, maps, wideKeys, modest, calm, conditions, laid).
  DERIVED. THE GIVEN ROWS OF THIS SEAT. 8 by the template 'for every input the law returns true; each argument reads behind the call as it read before'; 0 by the template 'total and deterministic' (their statements: Qxb6603176aTotals.lean).
  GIVEN WITH THE SEED: the statements are not yours to turn. If you find one false, say at which input.
  Laid BY PROGRAM, IN A SANDBOX (cutbox-rows.mjs): the forced cells as the released guide's own fill.sh prints them over the translation 376afddb455485ce… (all of the seat's roots in one cut). By AI agents, Wed Nov 11 2026. No macro, syntax, notation, axiom, sorry.
-/
import Derived.Test.Qxb6603176aChecked
import GoSem.Claim
import GoSem.ClaimJoined
import GoSem.ClaimMapViews
import Derived.JoinedTies
import Derived.KernelRfl
namespace Go.Proofs.Qxb6603176a
/- THE CELL 'sum', in the pinned program and in every row, IS THE sha256 OF THE DUMP (.gsa) THAT Qxb6603176aProg.lean LOADS. Nothing in Lean hashes anything: it is a label: what it is worth is what the hold of that sum in a sandbox is worth. -/
noncomputable def Try.pinned : Pinned := { name := "qxb6603176a", sum := "376afddb455485ce12bc32fdd36d0a1c836063e521b6d61be9bb2d67d836c83b", checked := Try.checked }
namespace Rows
def none {H : Type} : Left H := { results := [], args := [] }

/-- 'zzlaws_internal_locale_b1.FnParseWeightMatchesGrammar': WHATEVER THE INPUT: true; the input reads as it did. -/
def fnParseWeightMatchesGrammarSpec : ChangeSpec := { name := "fnParseWeightMatchesGrammar", fn := fun _ => fun
  | [d] => { results := [.lit (.bool true)], args := [d] }
  | _ => none }
def fnParseWeightMatchesGrammarRow : OpenClaim := { program := "qxb6603176a", sum := "376afddb455485ce12bc32fdd36d0a1c836063e521b6d61be9bb2d67d836c83b", func := "example.com/vernacular/vernacular/zzlaws_internal_locale_b1.FnParseWeightMatchesGrammar", spec := "fnParseWeightMatchesGrammar", apart := false }
def FnParseWeightMatchesGrammarSaid : Prop := fnParseWeightMatchesGrammarRow.holds Try.pinned (OpenSpec.ofChange fnParseWeightMatchesGrammarSpec)

/-- ITS FALSE NEIGHBOUR: 'it returns false'. Refute it at one input. -/
def fnParseWeightMatchesGrammarWrong : ChangeSpec := { name := "fnParseWeightMatchesGrammar", fn := fun _ => fun
  | [d] => { results := [.lit (.bool false)], args := [d] }
  | _ => none }
def FnParseWeightMatchesGrammarWrongFalsely : Prop := fnParseWeightMatchesGrammarRow.holds Try.pinned (OpenSpec.ofChange fnParseWeightMatchesGrammarWrong)

/-- 'zzlaws_internal_locale_b1.FnParseWeightReadsEveryRendering': WHATEVER THE INPUT: true; the input reads as it did. -/
def fnParseWeightReadsEveryRenderingSpec : ChangeSpec := { name := "fnParseWeightReadsEveryRendering", fn := fun _ => fun
  | [d] => { results := [.lit (.bool true)], args := [d] }
  | _ => none }
def fnParseWeightReadsEveryRenderingRow : OpenClaim := { program := "qxb6603176a", sum := "376afddb455485ce12bc32fdd36d0a1c836063e521b6d61be9bb2d67d836c83b", func := "example.com/vernacular/vernacular/zzlaws_internal_locale_b1.FnParseWeightReadsEveryRendering", spec := "fnParseWeightReadsEveryRendering", apart := false }
def FnParseWeightReadsEveryRenderingSaid : Prop := fnParseWeightReadsEveryRenderingRow.holds Try.pinned (OpenSpec.ofChange fnParseWeightReadsEveryRenderingSpec)

/-- ITS FALSE NEIGHBOUR: 'it returns false'. Refute it at one input. -/
def fnParseWeightReadsEveryRenderingWrong : ChangeSpec := { name := "fnParseWeightReadsEveryRendering", fn := fun _ => fun
  | [d] => { results := [.lit (.bool false)], args := [d] }
  | _ => none }
def FnParseWeightReadsEveryRenderingWrongFalsely : Prop := fnParseWeightReadsEveryRenderingRow.holds Try.pinned (OpenSpec.ofChange fnParseWeightReadsEveryRenderingWrong)

/-- 'zzlaws_internal_locale_b1.FnParseWeightTrailingZeroKeepsValue': WHATEVER THE INPUT: true; the input reads as it did. -/
def fnParseWeightTrailingZeroKeepsValueSpec : ChangeSpec := { name := "fnParseWeightTrailingZeroKeepsValue", fn := fun _ => fun
  | [d] => { results := [.lit (.bool true)], args := [d] }
  | _ => none }
def fnParseWeightTrailingZeroKeepsValueRow : OpenClaim := { program := "qxb6603176a", sum := "376afddb455485ce12bc32fdd36d0a1c836063e521b6d61be9bb2d67d836c83b", func := "example.com/vernacular/vernacular/zzlaws_internal_locale_b1.FnParseWeightTrailingZeroKeepsValue", spec := "fnParseWeightTrailingZeroKeepsValue", apart := false }
def FnParseWeightTrailingZeroKeepsValueSaid : Prop := fnParseWeightTrailingZeroKeepsValueRow.holds Try.pinned (OpenSpec.ofChange fnParseWeightTrailingZeroKeepsValueSpec)

/-- ITS FALSE NEIGHBOUR: 'it returns false'. Refute it at one input. -/
def fnParseWeightTrailingZeroKeepsValueWrong : ChangeSpec := { name := "fnParseWeightTrailingZeroKeepsValue", fn := fun _ => fun
  | [d] => { results := [.lit (.bool false)], args := [d] }
  | _ => none }
def FnParseWeightTrailingZeroKeepsValueWrongFalsely : Prop := fnParseWeightTrailingZeroKeepsValueRow.holds Try.pinned (OpenSpec.ofChange fnParseWeightTrailingZeroKeepsValueWrong)

/-- 'zzlaws_internal_locale_b1.FnSplitPartsLieInTagInOrder': WHATEVER THE INPUT: true; the input reads as it did. -/
def fnSplitPartsLieInTagInOrderSpec : ChangeSpec := { name := "fnSplitPartsLieInTagInOrder", fn := fun _ => fun
  | [d] => { results := [.lit (.bool true)], args := [d] }
  | _ => none }
def fnSplitPartsLieInTagInOrderRow : OpenClaim := { program := "qxb6603176a", sum := "376afddb455485ce12bc32fdd36d0a1c836063e521b6d61be9bb2d67d836c83b", func := "example.com/vernacular/vernacular/zzlaws_internal_locale_b1.FnSplitPartsLieInTagInOrder", spec := "fnSplitPartsLieInTagInOrder", inPlace := ["internal/bytealg.IndexByteString"], apart := false }
def FnSplitPartsLieInTagInOrderSaid : Prop := fnSplitPartsLieInTagInOrderRow.holds Try.pinned (OpenSpec.ofChange fnSplitPartsLieInTagInOrderSpec)

/-- ITS FALSE NEIGHBOUR: 'it returns false'. Refute it at one input. -/
def fnSplitPartsLieInTagInOrderWrong : ChangeSpec := { name := "fnSplitPartsLieInTagInOrder", fn := fun _ => fun
  | [d] => { results := [.lit (.bool false)], args := [d] }
  | _ => none }
def FnSplitPartsLieInTagInOrderWrongFalsely : Prop := fnSplitPartsLieInTagInOrderRow.holds Try.pinned (OpenSpec.ofChange fnSplitPartsLieInTagInOrderWrong)

/-- 'zzlaws_internal_locale_b1.FnSplitAgreesWithNormalize': WHATEVER THE INPUT: true; the input reads as it did. -/
def fnSplitAgreesWithNormalizeSpec : ChangeSpec := { name := "fnSplitAgreesWithNormalize", fn := fun _ => fun
  | [d] => { results := [.lit (.bool true)], args := [d] }
  | _ => none }
def fnSplitAgreesWithNormalizeRow : OpenClaim := { program := "qxb6603176a", sum := "376afddb455485ce12bc32fdd36d0a1c836063e521b6d61be9bb2d67d836c83b", func := "example.com/vernacular/vernacular/zzlaws_internal_locale_b1.FnSplitAgreesWithNormalize", spec := "fnSplitAgreesWithNormalize", inPlace := ["internal/bytealg.IndexByteString"], unfollowed := true, recurses := true, apart := false }
def FnSplitAgreesWithNormalizeSaid : Prop := fnSplitAgreesWithNormalizeRow.holds Try.pinned (OpenSpec.ofChange fnSplitAgreesWithNormalizeSpec)

/-- ITS FALSE NEIGHBOUR: 'it returns false'. Refute it at one input. -/
def fnSplitAgreesWithNormalizeWrong : ChangeSpec := { name := "fnSplitAgreesWithNormalize", fn := fun _ => fun
  | [d] => { results := [.lit (.bool false)], args := [d] }
  | _ => none }
def FnSplitAgreesWithNormalizeWrongFalsely : Prop := fnSplitAgreesWithNormalizeRow.holds Try.pinned (OpenSpec.ofChange fnSplitAgreesWithNormalizeWrong)

/-- 'zzlaws_internal_locale_b1.FnNormalizeMatchesModel': WHATEVER THE INPUT: true; the input reads as it did. -/
def fnNormalizeMatchesModelSpec : ChangeSpec := { name := "fnNormalizeMatchesModel", fn := fun _ => fun
  | [d] => { results := [.lit (.bool true)], args := [d] }
  | _ => none }
def fnNormalizeMatchesModelRow : OpenClaim := { program := "qxb6603176a", sum := "376afddb455485ce12bc32fdd36d0a1c836063e521b6d61be9bb2d67d836c83b", func := "example.com/vernacular/vernacular/zzlaws_internal_locale_b1.FnNormalizeMatchesModel", spec := "fnNormalizeMatchesModel", unfollowed := true, recurses := true, apart := false }
def FnNormalizeMatchesModelSaid : Prop := fnNormalizeMatchesModelRow.holds Try.pinned (OpenSpec.ofChange fnNormalizeMatchesModelSpec)

/-- ITS FALSE NEIGHBOUR: 'it returns false'. Refute it at one input. -/
def fnNormalizeMatchesModelWrong : ChangeSpec := { name := "fnNormalizeMatchesModel", fn := fun _ => fun
  | [d] => { results := [.lit (.bool false)], args := [d] }
  | _ => none }
def FnNormalizeMatchesModelWrongFalsely : Prop := fnNormalizeMatchesModelRow.holds Try.pinned (OpenSpec.ofChange fnNormalizeMatchesModelWrong)

/-- 'zzlaws_internal_locale_b1.FnNormalizeIdempotent': WHATEVER THE INPUT: true; the input reads as it did. -/
def fnNormalizeIdempotentSpec : ChangeSpec := { name := "fnNormalizeIdempotent", fn := fun _ => fun
  | [d] => { results := [.lit (.bool true)], args := [d] }
  | _ => none }
def fnNormalizeIdempotentRow : OpenClaim := { program := "qxb6603176a", sum := "376afddb455485ce12bc32fdd36d0a1c836063e521b6d61be9bb2d67d836c83b", func := "example.com/vernacular/vernacular/zzlaws_internal_locale_b1.FnNormalizeIdempotent", spec := "fnNormalizeIdempotent", unfollowed := true, recurses := true, apart := false }
def FnNormalizeIdempotentSaid : Prop := fnNormalizeIdempotentRow.holds Try.pinned (OpenSpec.ofChange fnNormalizeIdempotentSpec)

/-- ITS FALSE NEIGHBOUR: 'it returns false'. Refute it at one input. -/
def fnNormalizeIdempotentWrong : ChangeSpec := { name := "fnNormalizeIdempotent", fn := fun _ => fun
  | [d] => { results := [.lit (.bool false)], args := [d] }
  | _ => none }
def FnNormalizeIdempotentWrongFalsely : Prop := fnNormalizeIdempotentRow.holds Try.pinned (OpenSpec.ofChange fnNormalizeIdempotentWrong)

/-- 'zzlaws_internal_locale_b1.FnNormalizeIgnoresCaseAndSeparator': WHATEVER THE INPUT: true; the input reads as it did. -/
def fnNormalizeIgnoresCaseAndSeparatorSpec : ChangeSpec := { name := "fnNormalizeIgnoresCaseAndSeparator", fn := fun _ => fun
  | [d1, d2] => { results := [.lit (.bool true)], args := [d1, d2] }
  | _ => none }
def fnNormalizeIgnoresCaseAndSeparatorRow : OpenClaim := { program := "qxb6603176a", sum := "376afddb455485ce12bc32fdd36d0a1c836063e521b6d61be9bb2d67d836c83b", func := "example.com/vernacular/vernacular/zzlaws_internal_locale_b1.FnNormalizeIgnoresCaseAndSeparator", spec := "fnNormalizeIgnoresCaseAndSeparator", unfollowed := true, recurses := true, apart := false }
def FnNormalizeIgnoresCaseAndSeparatorSaid : Prop := fnNormalizeIgnoresCaseAndSeparatorRow.holds Try.pinned (OpenSpec.ofChange fnNormalizeIgnoresCaseAndSeparatorSpec)

/-- ITS FALSE NEIGHBOUR: 'it returns false'. Refute it at one input. -/
def fnNormalizeIgnoresCaseAndSeparatorWrong : ChangeSpec := { name := "fnNormalizeIgnoresCaseAndSeparator", fn := fun _ => fun
  | [d1, d2] => { results := [.lit (.bool false)], args := [d1, d2] }
  | _ => none }
def FnNormalizeIgnoresCaseAndSeparatorWrongFalsely : Prop := fnNormalizeIgnoresCaseAndSeparatorRow.holds Try.pinned (OpenSpec.ofChange fnNormalizeIgnoresCaseAndSeparatorWrong)

end Rows
end Go.Proofs.Qxb6603176a
