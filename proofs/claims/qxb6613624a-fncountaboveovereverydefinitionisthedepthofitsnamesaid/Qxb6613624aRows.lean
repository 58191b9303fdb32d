/-
  No cell of these rows narrows 'for every input' (looked for: loops, veiled, ifaces, maps, wideKeys, modest, calm, conditions, laid).
  DERIVED. THE GIVEN ROWS OF THIS SEAT. 5 by the template 'for every input the law returns true; each argument reads behind the call as it read before'; 0 by the template 'total and deterministic' (their statements: Qxb6613624aTotals.lean).
  GIVEN WITH THE SEED: the statements are not yours to turn. If you find one false, say at which input.
  Laid BY PROGRAM, IN A SANDBOX (cutbox-rows.mjs): the forced cells as the released guide's own fill.sh prints them over the translation 5f6287bf4efb1d72… (all of the seat's roots in one cut). By AI agents, Wed Nov 11 2026. No macro, syntax, notation, axiom, sorry.
-/
import Derived.Test.Qxb6613624aChecked
import GoSem.Claim
import GoSem.ClaimJoined
import GoSem.ClaimMapViews
import Derived.JoinedTies
import Derived.KernelRfl
namespace Go.Proofs.Qxb6613624a
/- THE CELL 'sum', in the pinned program and in every row, IS THE sha256 OF THE DUMP (.gsa) THAT Qxb6613624aProg.lean LOADS. Nothing in Lean hashes anything: it is a label: what it is worth is what the hold of that sum in a sandbox is worth. -/
noncomputable def Try.pinned : Pinned := { name := "qxb6613624a", sum := "5f6287bf4efb1d726f316b0723cb1892660d99bd1956aa9a64d929244d376b25", checked := Try.checked }
namespace Rows
def none {H : Type} : Left H := { results := [], args := [] }

/-- 'zzlaws_internal_vars_b1.FnDefListValueIsTheImportedValueInNameOrder': WHATEVER THE INPUT: true; the input reads as it did. -/
def fnDefListValueIsTheImportedValueInNameOrderSpec : ChangeSpec := { name := "fnDefListValueIsTheImportedValueInNameOrder", fn := fun _ => fun
  | [d1, d2, d3] => { results := [.lit (.bool true)], args := [d1, d2, d3] }
  | _ => none }
def fnDefListValueIsTheImportedValueInNameOrderRow : OpenClaim := { program := "qxb6613624a", sum := "5f6287bf4efb1d726f316b0723cb1892660d99bd1956aa9a64d929244d376b25", func := "example.com/keelrun/keelrun/zzlaws_internal_vars_b1.FnDefListValueIsTheImportedValueInNameOrder", spec := "fnDefListValueIsTheImportedValueInNameOrder", unfollowed := true, recurses := true, apart := false }
def FnDefListValueIsTheImportedValueInNameOrderSaid : Prop := fnDefListValueIsTheImportedValueInNameOrderRow.holds Try.pinned (OpenSpec.ofChange fnDefListValueIsTheImportedValueInNameOrderSpec)

/-- ITS FALSE NEIGHBOUR: 'it returns false'. Refute it at one input. -/
def fnDefListValueIsTheImportedValueInNameOrderWrong : ChangeSpec := { name := "fnDefListValueIsTheImportedValueInNameOrder", fn := fun _ => fun
  | [d1, d2, d3] => { results := [.lit (.bool false)], args := [d1, d2, d3] }
  | _ => none }
def FnDefListValueIsTheImportedValueInNameOrderWrongFalsely : Prop := fnDefListValueIsTheImportedValueInNameOrderRow.holds Try.pinned (OpenSpec.ofChange fnDefListValueIsTheImportedValueInNameOrderWrong)

/-- 'zzlaws_internal_vars_b1.FnDefListValueAboveStaysWhenImportingBelow': WHATEVER THE INPUT: true; the input reads as it did. -/
def fnDefListValueAboveStaysWhenImportingBelowSpec : ChangeSpec := { name := "fnDefListValueAboveStaysWhenImportingBelow", fn := fun _ => fun
  | [d1, d2, d3, d4] => { results := [.lit (.bool true)], args := [d1, d2, d3, d4] }
  | _ => none }
def fnDefListValueAboveStaysWhenImportingBelowRow : OpenClaim := { program := "qxb6613624a", sum := "5f6287bf4efb1d726f316b0723cb1892660d99bd1956aa9a64d929244d376b25", func := "example.com/keelrun/keelrun/zzlaws_internal_vars_b1.FnDefListValueAboveStaysWhenImportingBelow", spec := "fnDefListValueAboveStaysWhenImportingBelow", unfollowed := true, recurses := true, apart := false }
def FnDefListValueAboveStaysWhenImportingBelowSaid : Prop := fnDefListValueAboveStaysWhenImportingBelowRow.holds Try.pinned (OpenSpec.ofChange fnDefListValueAboveStaysWhenImportingBelowSpec)

/-- ITS FALSE NEIGHBOUR: 'it returns false'. Refute it at one input. -/
def fnDefListValueAboveStaysWhenImportingBelowWrong : ChangeSpec := { name := "fnDefListValueAboveStaysWhenImportingBelow", fn := fun _ => fun
  | [d1, d2, d3, d4] => { results := [.lit (.bool false)], args := [d1, d2, d3, d4] }
  | _ => none }
def FnDefListValueAboveStaysWhenImportingBelowWrongFalsely : Prop := fnDefListValueAboveStaysWhenImportingBelowRow.holds Try.pinned (OpenSpec.ofChange fnDefListValueAboveStaysWhenImportingBelowWrong)

/-- 'zzlaws_internal_vars_b1.FnMeasureFieldsRebuildTheWord': WHATEVER THE INPUT: true; the input reads as it did. -/
def fnMeasureFieldsRebuildTheWordSpec : ChangeSpec := { name := "fnMeasureFieldsRebuildTheWord", fn := fun _ => fun
  | [d] => { results := [.lit (.bool true)], args := [d] }
  | _ => none }
def fnMeasureFieldsRebuildTheWordRow : OpenClaim := { program := "qxb6613624a", sum := "5f6287bf4efb1d726f316b0723cb1892660d99bd1956aa9a64d929244d376b25", func := "example.com/keelrun/keelrun/zzlaws_internal_vars_b1.FnMeasureFieldsRebuildTheWord", spec := "fnMeasureFieldsRebuildTheWord", apart := false }
def FnMeasureFieldsRebuildTheWordSaid : Prop := fnMeasureFieldsRebuildTheWordRow.holds Try.pinned (OpenSpec.ofChange fnMeasureFieldsRebuildTheWordSpec)

/-- ITS FALSE NEIGHBOUR: 'it returns false'. Refute it at one input. -/
def fnMeasureFieldsRebuildTheWordWrong : ChangeSpec := { name := "fnMeasureFieldsRebuildTheWord", fn := fun _ => fun
  | [d] => { results := [.lit (.bool false)], args := [d] }
  | _ => none }
def FnMeasureFieldsRebuildTheWordWrongFalsely : Prop := fnMeasureFieldsRebuildTheWordRow.holds Try.pinned (OpenSpec.ofChange fnMeasureFieldsRebuildTheWordWrong)

/-- 'zzlaws_internal_vars_b1.FnCountAboveCountsTheChosenDefinitionsItStandsOver': WHATEVER THE INPUT: true; the input reads as it did. -/
def fnCountAboveCountsTheChosenDefinitionsItStandsOverSpec : ChangeSpec := { name := "fnCountAboveCountsTheChosenDefinitionsItStandsOver", fn := fun _ => fun
  | [d1, d2, d3, d4, d5, d6] => { results := [.lit (.bool true)], args := [d1, d2, d3, d4, d5, d6] }
  | _ => none }
def fnCountAboveCountsTheChosenDefinitionsItStandsOverRow : OpenClaim := { program := "qxb6613624a", sum := "5f6287bf4efb1d726f316b0723cb1892660d99bd1956aa9a64d929244d376b25", func := "example.com/keelrun/keelrun/zzlaws_internal_vars_b1.FnCountAboveCountsTheChosenDefinitionsItStandsOver", spec := "fnCountAboveCountsTheChosenDefinitionsItStandsOver", unfollowed := true, recurses := true, apart := false }
def FnCountAboveCountsTheChosenDefinitionsItStandsOverSaid : Prop := fnCountAboveCountsTheChosenDefinitionsItStandsOverRow.holds Try.pinned (OpenSpec.ofChange fnCountAboveCountsTheChosenDefinitionsItStandsOverSpec)

/-- ITS FALSE NEIGHBOUR: 'it returns false'. Refute it at one input. -/
def fnCountAboveCountsTheChosenDefinitionsItStandsOverWrong : ChangeSpec := { name := "fnCountAboveCountsTheChosenDefinitionsItStandsOver", fn := fun _ => fun
  | [d1, d2, d3, d4, d5, d6] => { results := [.lit (.bool false)], args := [d1, d2, d3, d4, d5, d6] }
  | _ => none }
def FnCountAboveCountsTheChosenDefinitionsItStandsOverWrongFalsely : Prop := fnCountAboveCountsTheChosenDefinitionsItStandsOverRow.holds Try.pinned (OpenSpec.ofChange fnCountAboveCountsTheChosenDefinitionsItStandsOverWrong)

/-- 'zzlaws_internal_vars_b1.FnCountAboveOverEveryDefinitionIsTheDepthOfItsName': WHATEVER THE INPUT: true; the input reads as it did. -/
def fnCountAboveOverEveryDefinitionIsTheDepthOfItsNameSpec : ChangeSpec := { name := "fnCountAboveOverEveryDefinitionIsTheDepthOfItsName", fn := fun _ => fun
  | [d1, d2, d3, d4, d5, d6] => { results := [.lit (.bool true)], args := [d1, d2, d3, d4, d5, d6] }
  | _ => none }
def fnCountAboveOverEveryDefinitionIsTheDepthOfItsNameRow : OpenClaim := { program := "qxb6613624a", sum := "5f6287bf4efb1d726f316b0723cb1892660d99bd1956aa9a64d929244d376b25", func := "example.com/keelrun/keelrun/zzlaws_internal_vars_b1.FnCountAboveOverEveryDefinitionIsTheDepthOfItsName", spec := "fnCountAboveOverEveryDefinitionIsTheDepthOfItsName", unfollowed := true, recurses := true, apart := false }
def FnCountAboveOverEveryDefinitionIsTheDepthOfItsNameSaid : Prop := fnCountAboveOverEveryDefinitionIsTheDepthOfItsNameRow.holds Try.pinned (OpenSpec.ofChange fnCountAboveOverEveryDefinitionIsTheDepthOfItsNameSpec)

/-- ITS FALSE NEIGHBOUR: 'it returns false'. Refute it at one input. -/
def fnCountAboveOverEveryDefinitionIsTheDepthOfItsNameWrong : ChangeSpec := { name := "fnCountAboveOverEveryDefinitionIsTheDepthOfItsName", fn := fun _ => fun
  | [d1, d2, d3, d4, d5, d6] => { results := [.lit (.bool false)], args := [d1, d2, d3, d4, d5, d6] }
  | _ => none }
def FnCountAboveOverEveryDefinitionIsTheDepthOfItsNameWrongFalsely : Prop := fnCountAboveOverEveryDefinitionIsTheDepthOfItsNameRow.holds Try.pinned (OpenSpec.ofChange fnCountAboveOverEveryDefinitionIsTheDepthOfItsNameWrong)

end Rows
end Go.Proofs.Qxb6613624a
