/-
  'Rows.FnHooksAgreeWithAccessorsAndActionsSaid': the cases together, and the row's step.
-/
import Derived.Test.Qxb6605713aRows
import Derived.Test.Qxb6605713aAgreeQ
import Derived.Test.Qxb6605713aAgreePQ
import Derived.ProofKit
import Derived.OpenShut
import Derived.ShutString
import Derived.ChangeOld
import Derived.Below
namespace Go.Proofs.Qxb6605713a
open Go.RowKit
theorem walk5 (b : Bool) (pk qk : Int) (w : World) :
    Calls Try.prog 5 #[.bool b, .int .i8 pk, .int .i8 qk] w fun e w' => e = .returned (.bool true) ∧ Below w.heap.size w w' := by
  cases b with
  | false => exact walk5_no pk qk w
  | true =>
    cases kp : isKind pk with
    | false =>
      cases kq : isKind qk with
      | false => exact walk5_none pk qk kp kq w
      | true => exact walk5_q pk qk kp kq w
    | true =>
      cases kq : isKind qk with
      | false => exact walk5_p pk qk kp kq w
      | true => exact walk5_pq pk qk kp kq w
theorem own : ownKnob Try.prog.godebug = none := by kernel_rfl
end Go.Proofs.Qxb6605713a
namespace Go.Proofs.Qxb6605713a.fnHooksAgreeWithAccessorsAndActions
open Go.ChangeShapes Go.WideShapes Go.ChangeAt Go.RowKit

set_option maxRecDepth 100000 in
theorem lifted (os : Os) (started : os.Started) (H : Type) (enc : TypeId × Value → H) :
    ReturnsInHanded {} Try.checked os 5 .any (Rows.fnHooksAgreeWithAccessorsAndActionsSpec.pre6 enc Try.prog Try.f5 Rows.fnHooksAgreeWithAccessorsAndActionsRow.domain false) (Rows.fnHooksAgreeWithAccessorsAndActionsSpec.post enc Try.prog Try.f5 false true false false) := by
  refine returnsInHanded_of_change (C := Try.checked) own started (by kernel_rfl) Try.func5
    (ChangeSpec.witness6 (enc := enc) (C := Try.checked) false ⟨#[], #[.bool false, .int .i8 0, .int .i8 0], []⟩ 8 (by kernel_rfl) (by kernel_rfl) (by kernel_rfl) (by kernel_rfl)) ?_
  intro W base args ds gs before hval0 hW hcnd _
  have hval : ∀ (j : Nat) t v, Try.f5.params[j]? = some t → args[j]? = some v → Value.okWide Try.prog W .any base t v := hval0
  have hW' := hW
  obtain ⟨p, q, hA0, hV, rfl, hfz, hnd⟩ := hW
  have hA : DataW.TrodAll enc Try.prog W 0 (fun _ => true) true Try.f5.params.toList args.toList ds p := hA0
  rw [Try.params5] at hA hval
  obtain ⟨v0, vs0, d0, ds0, p0, q0, hargs, rfl, rfl, h0, r0⟩ := trodAll_cons hA
  obtain ⟨v1, vs1, d1, ds1, p1, q1, rfl, rfl, rfl, h1, r1⟩ := trodAll_cons r0
  obtain ⟨v2, vs2, d2, ds2, p2, q2, rfl, rfl, rfl, h2, r2⟩ := trodAll_cons r1
  obtain ⟨rfl, rfl, rfl⟩ := trodAll_nil r2
  obtain rfl : args = #[v0, v1, v2] := by cases args; simp_all
  obtain ⟨rfl, rfl⟩ := trodVars_none hV
  obtain ⟨a0, rfl, rfl, rfl⟩ := open_bool Try.underlying4 (hval 0 4 v0 rfl rfl) h0
  obtain ⟨a1, rfl, rfl, rfl, w1⟩ := open_int Try.underlying47 (hval 1 47 v1 rfl rfl) h1
  obtain ⟨a2, rfl, rfl, rfl, w2⟩ := open_int Try.underlying47 (hval 2 47 v2 rfl rfl) h2
  clear hA0 hval0
  refine (walk5 a0 a1 a2 W).mono fun e W' ⟨he, bel⟩ => ?_
  subst he
  exact ⟨_, rfl, _, _, _, [], _, [], hW', trodAll_mk1 (shut_bool Try.underlying4 _), (trodAll_cons_mk (shut_bool Try.underlying4 _) (trodAll_cons_mk (shut_int Try.underlying47 w1) (trodAll_cons_mk (shut_int Try.underlying47 w2) trodAll_mk0))), rfl, bel.frame _, fun h => by cases h⟩

theorem over : Rows.fnHooksAgreeWithAccessorsAndActionsRow.holds Try.pinned (OpenSpec.ofChange Rows.fnHooksAgreeWithAccessorsAndActionsSpec) :=
  OpenClaim.holds_of_wide 5 Try.f5 rfl rfl rfl rfl rfl rfl rfl ⟨rfl, rfl, rfl, rfl, rfl⟩ rfl rfl rfl rfl rfl (by kernel_rfl) Try.func5 (by kernel_rfl)
    (of_decide_eq_true (by kernel_rfl)) (by unfold Func.isWrapper; first | (rw [if_pos (by decide +kernel)]; kernel_rfl) | (rw [if_neg (by decide +kernel)]; exact ⟨rfl, rfl⟩))
    (fun os started H enc _ => lifted os started H enc)

/-- THE STATEMENT. -/
theorem proved : Rows.FnHooksAgreeWithAccessorsAndActionsSaid :=
  over
end Go.Proofs.Qxb6605713a.fnHooksAgreeWithAccessorsAndActions
