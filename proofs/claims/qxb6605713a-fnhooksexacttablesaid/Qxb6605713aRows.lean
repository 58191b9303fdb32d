/-
  No cell of these rows narrows 'for every input' (looked for: loops, veiled, ifaces, maps, wideKeys, modest, calm, conditions, laid).
  DERIVED. THE GIVEN ROWS OF THIS SEAT. 3 by the template 'for every input the law returns true; each argument reads behind the call as it read before'; 0 by the template 'total and deterministic' (their statements: Qxb6605713aTotals.lean).
  GIVEN WITH THE SEED: the statements are not yours to turn. If you find one false, say at which input.
  Laid BY PROGRAM, IN A SANDBOX (cutbox-rows.mjs): the forced cells as the released guide's own fill.sh prints them over the translation d77cf0cea4549554… (all of the seat's roots in one cut). By AI agents, Wed Nov 11 2026. No macro, syntax, notation, axiom, sorry.
-/
import Derived.Test.Qxb6605713aChecked
import GoSem.Claim
import GoSem.ClaimJoined
import GoSem.ClaimMapViews
import Derived.JoinedTies
import Derived.KernelRfl
namespace Go.Proofs.Qxb6605713a
/- THE CELL 'sum', in the pinned program and in every row, IS THE sha256 OF THE DUMP (.gsa) THAT Qxb6605713aProg.lean LOADS. Nothing in Lean hashes anything: it is a label: what it is worth is what the hold of that sum in a sandbox is worth. -/
noncomputable def Try.pinned : Pinned := { name := "qxb6605713a", sum := "d77cf0cea4549554ecda752b6324f209ae0d89db2a045fa85eff3708d7abce8d", checked := Try.checked }
namespace Rows
def none {H : Type} : Left H := { results := [], args := [] }

/-- 'zzlaws_manifest_b1.FnIsLineBreakCountsEncodedBreaks': WHATEVER THE INPUT: true; the input reads as it did. -/
def fnIsLineBreakCountsEncodedBreaksSpec : ChangeSpec := { name := "fnIsLineBreakCountsEncodedBreaks", fn := fun _ => fun
  | [d] => { results := [.lit (.bool true)], args := [d] }
  | _ => none }
def fnIsLineBreakCountsEncodedBreaksRow : OpenClaim := { program := "qxb6605713a", sum := "d77cf0cea4549554ecda752b6324f209ae0d89db2a045fa85eff3708d7abce8d", func := "example.com/gracewatch/gracewatch/zzlaws_manifest_b1.FnIsLineBreakCountsEncodedBreaks", spec := "fnIsLineBreakCountsEncodedBreaks", apart := false }
def FnIsLineBreakCountsEncodedBreaksSaid : Prop := fnIsLineBreakCountsEncodedBreaksRow.holds Try.pinned (OpenSpec.ofChange fnIsLineBreakCountsEncodedBreaksSpec)

/-- ITS FALSE NEIGHBOUR: 'it returns false'. Refute it at one input. -/
def fnIsLineBreakCountsEncodedBreaksWrong : ChangeSpec := { name := "fnIsLineBreakCountsEncodedBreaks", fn := fun _ => fun
  | [d] => { results := [.lit (.bool false)], args := [d] }
  | _ => none }
def FnIsLineBreakCountsEncodedBreaksWrongFalsely : Prop := fnIsLineBreakCountsEncodedBreaksRow.holds Try.pinned (OpenSpec.ofChange fnIsLineBreakCountsEncodedBreaksWrong)

/-- 'zzlaws_manifest_b1.FnHooksExactTable': WHATEVER THE INPUT: true; the input reads as it did. -/
def fnHooksExactTableSpec : ChangeSpec := { name := "fnHooksExactTable", fn := fun _ => fun
  | [d1, d2, d3, d4, d5, d6, d7, d8] => { results := [.lit (.bool true)], args := [d1, d2, d3, d4, d5, d6, d7, d8] }
  | _ => none }
def fnHooksExactTableRow : OpenClaim := { program := "qxb6605713a", sum := "d77cf0cea4549554ecda752b6324f209ae0d89db2a045fa85eff3708d7abce8d", func := "example.com/gracewatch/gracewatch/zzlaws_manifest_b1.FnHooksExactTable", spec := "fnHooksExactTable", apart := false }
def FnHooksExactTableSaid : Prop := fnHooksExactTableRow.holds Try.pinned (OpenSpec.ofChange fnHooksExactTableSpec)

/-- ITS FALSE NEIGHBOUR: 'it returns false'. Refute it at one input. -/
def fnHooksExactTableWrong : ChangeSpec := { name := "fnHooksExactTable", fn := fun _ => fun
  | [d1, d2, d3, d4, d5, d6, d7, d8] => { results := [.lit (.bool false)], args := [d1, d2, d3, d4, d5, d6, d7, d8] }
  | _ => none }
def FnHooksExactTableWrongFalsely : Prop := fnHooksExactTableRow.holds Try.pinned (OpenSpec.ofChange fnHooksExactTableWrong)

/-- 'zzlaws_manifest_b1.FnHooksAgreeWithAccessorsAndActions': WHATEVER THE INPUT: true; the input reads as it did. -/
def fnHooksAgreeWithAccessorsAndActionsSpec : ChangeSpec := { name := "fnHooksAgreeWithAccessorsAndActions", fn := fun _ => fun
  | [d1, d2, d3] => { results := [.lit (.bool true)], args := [d1, d2, d3] }
  | _ => none }
def fnHooksAgreeWithAccessorsAndActionsRow : OpenClaim := { program := "qxb6605713a", sum := "d77cf0cea4549554ecda752b6324f209ae0d89db2a045fa85eff3708d7abce8d", func := "example.com/gracewatch/gracewatch/zzlaws_manifest_b1.FnHooksAgreeWithAccessorsAndActions", spec := "fnHooksAgreeWithAccessorsAndActions", apart := false }
def FnHooksAgreeWithAccessorsAndActionsSaid : Prop := fnHooksAgreeWithAccessorsAndActionsRow.holds Try.pinned (OpenSpec.ofChange fnHooksAgreeWithAccessorsAndActionsSpec)

/-- ITS FALSE NEIGHBOUR: 'it returns false'. Refute it at one input. -/
def fnHooksAgreeWithAccessorsAndActionsWrong : ChangeSpec := { name := "fnHooksAgreeWithAccessorsAndActions", fn := fun _ => fun
  | [d1, d2, d3] => { results := [.lit (.bool false)], args := [d1, d2, d3] }
  | _ => none }
def FnHooksAgreeWithAccessorsAndActionsWrongFalsely : Prop := fnHooksAgreeWithAccessorsAndActionsRow.holds Try.pinned (OpenSpec.ofChange fnHooksAgreeWithAccessorsAndActionsWrong)

end Rows
end Go.Proofs.Qxb6605713a
