/-
  'Rows.FnIsLineBreakCountsEncodedBreaksSaid': the walks (the byte-wise count; the count over the runes that range decodes) and the row's step.
-/
import Derived.Test.Qxb6605713aBreaks
import Derived.Test.Qxb6605713aRows
import Derived.WalkKit
import Derived.WalkLawsBesides
import Derived.Deep.Light
import Derived.ProofKit
import Derived.OpenShut
import Derived.ShutString
import Derived.ChangeOld
import Derived.Below
namespace Go.Proofs.Qxb6605713a
open Go.RowKit
theorem ret_b {a b : Bool} (h : a = b) : Ending.returned (.bool a) = .returned (.bool b) := by rw [h]
theorem yes_close {p : Nat → Bool} {k : Nat} (h : p k = true) : Value.int .i64 ((cntTo p k : Int) + 1) = .int .i64 (cntTo p (k + 1) : Nat) := by
  simp [cntTo, h]
theorem no_close {p : Nat → Bool} {k : Nat} (h : ¬ p k = true) : Value.int .i64 (cntTo p k : Int) = .int .i64 (cntTo p (k + 1) : Nat) := by
  simp [cntTo, h]
theorem isBreak (r : Nat) (w : World) : Calls Try.prog 7 #[.int .i32 r] w fun e w' => e = .returned (.bool (lb r)) ∧ w' = w := by
  go_enter Try.func7, Try.ntmps7
  go_wp2
  all_goals
    go_ret
    refine ⟨ret_b ?_, rfl⟩
    rw [Bool.eq_iff_iff, lb_iff]
    simp only [beq_iff_eq, beq_eq_false_iff_ne, ne_eq] at *
    simp only [true_iff, Bool.false_eq_true, false_iff]
    omega
set_option maxHeartbeats 1000000 in
theorem enc_any (s : ByteArray) (w : World) (hs : s.size ≤ 1048576) : Calls Try.prog 8 #[.string s] w fun e w' => e = .returned (.int .i64 (cntTo (eb s) s.size)) ∧ w' = w := by
  go_enter Try.func8, Try.ntmps8
  go_wp2
  go_loop [3, 4] (fun n i => ∃ k : Nat, k ≤ s.size ∧ i = .int .i64 k ∧ n = .int .i64 (cntTo (eb s) k)) (fun _ i => s.size - (intOf i).toNat)
  case atStart => exact ⟨0, Nat.zero_le _, rfl, rfl⟩
  case round =>
    obtain ⟨k, hk, rfl, rfl⟩ := hrel
    have hle := cntTo_le (eb s) k
    by_cases hlt : k < s.size
    · have e0 := bt_eq s k hlt
      by_cases q1 : k + 1 < s.size
      · have e1 := bt_eq s (k + 1) q1
        by_cases q2 : k + 2 < s.size
        · have e2 := bt_eq s (k + 2) q2
          go_wp2
          all_goals
            go_light
            refine ⟨⟨k + 1, by omega, by go_num, ?_⟩, by simp [intOf]; omega⟩
            simp only [beq_iff_eq, beq_eq_false_iff_ne, ne_eq] at *
            first | (refine yes_close ?_; rw [eb_iff]; omega) | (refine no_close ?_; rw [eb_iff]; omega)
        · go_wp2
          all_goals
            go_light
            refine ⟨⟨k + 1, by omega, by go_num, ?_⟩, by simp [intOf]; omega⟩
            simp only [beq_iff_eq, beq_eq_false_iff_ne, ne_eq] at *
            first | (refine yes_close ?_; rw [eb_iff]; omega) | (refine no_close ?_; rw [eb_iff]; omega)
      · go_wp2
        all_goals
          go_light
          refine ⟨⟨k + 1, by omega, by go_num, ?_⟩, by simp [intOf]; omega⟩
          simp only [beq_iff_eq, beq_eq_false_iff_ne, ne_eq] at *
          first | (refine yes_close ?_; rw [eb_iff]; omega) | (refine no_close ?_; rw [eb_iff]; omega)
    · have hkk : k = s.size := by omega
      subst hkk
      go_wp2
      go_ret
      exact ⟨rfl, rfl⟩

set_option maxHeartbeats 1000000 in
theorem walk3 (s : ByteArray) (w : World) (hs : s.size ≤ maxLen) :
    Calls Try.prog 3 #[.string s] w fun e w' => e = .returned (.bool true) ∧ Below w.heap.size w w' := by
  unfold maxLen at hs
  by_cases hbig : 1048576 < (s.size : Int)
  · go_enter Try.func3, Try.ntmps3
    go_wp2
    go_ret
    exact ⟨rfl, Below.refl _ _⟩
  · have hs2 : s.size ≤ 1048576 := by omega
    go_enter Try.func3, Try.ntmps3
    go_wp2
    go_loopw [3] (fun n w' => ∃ pos : Nat, pos ≤ s.size ∧ w' = w.iter s pos ∧ n = .int .i64 (cntTo (eb s) pos)) (fun _ w' => s.size - w'.iterPos w.heap.size)
    case atStart => exact ⟨0, Nat.zero_le _, rfl, rfl⟩
    case round =>
      obtain ⟨pos, hpl, rfl, rfl⟩ := hrel
      have hle := cntTo_le (eb s) pos
      by_cases hp : pos < s.size
      · have hnx : ∀ ty, (Instr.next (.pointer (some ⟨w.heap.size, 0, none⟩)) true ty).run Try.prog (w.iter s pos) = _ := fun ty => run_next_any w s pos ty hp
        have hst := cnt_step s pos hp
        obtain ⟨h1, h2, _, _⟩ := eb_of s pos hp
        generalize (Utf8.decode s pos).1 = r at hnx hst
        generalize (Utf8.decode s pos).2 = d at hnx hst h1 h2
        cases hl : lb r with
        | true =>
          rw [hl] at hst
          have HS : Hid (cntTo (eb s) (pos + d) = cntTo (eb s) pos + 1) := hst
          clear hst
          go_wp2_with (go_at_call 7; refine (isBreak r _).mono ?_; rintro e w' ⟨rfl, rfl⟩)
          exact ⟨⟨pos + d, h1, rfl, by rw [HS.out]; go_num⟩, by simp; omega⟩
        | false =>
          rw [hl] at hst
          have HS : Hid (cntTo (eb s) (pos + d) = cntTo (eb s) pos) := hst
          clear hst
          go_wp2_with (go_at_call 7; refine (isBreak r _).mono ?_; rintro e w' ⟨rfl, rfl⟩)
          exact ⟨⟨pos + d, h1, rfl, by rw [HS.out]⟩, by simp; omega⟩
      · have hnx : ∀ ty, (Instr.next (.pointer (some ⟨w.heap.size, 0, none⟩)) true ty).run Try.prog (w.iter s pos) = _ := fun ty => run_next_end w s pos ty hp
        have hpp : pos = s.size := by omega
        subst hpp
        go_wp2_with (go_at_call 8; refine (enc_any s _ hs2).mono ?_; rintro e w' ⟨rfl, rfl⟩)
        go_ret
        exact ⟨ret_b (by simp), (Below.refl _ _).alloc (Nat.le_refl _) _⟩

theorem own : ownKnob Try.prog.godebug = none := by kernel_rfl
end Go.Proofs.Qxb6605713a
namespace Go.Proofs.Qxb6605713a.fnIsLineBreakCountsEncodedBreaks
open Go.ChangeShapes Go.WideShapes Go.ChangeAt Go.RowKit
open Go.ChangeMaps (open_string shut_string)

set_option maxRecDepth 100000 in
theorem lifted (os : Os) (started : os.Started) (H : Type) (enc : TypeId × Value → H) :
    ReturnsInHanded {} Try.checked os 3 .any (Rows.fnIsLineBreakCountsEncodedBreaksSpec.pre6 enc Try.prog Try.f3 Rows.fnIsLineBreakCountsEncodedBreaksRow.domain false) (Rows.fnIsLineBreakCountsEncodedBreaksSpec.post enc Try.prog Try.f3 false true false false) := by
  refine returnsInHanded_of_change (C := Try.checked) own started (by kernel_rfl) Try.func3
    (ChangeSpec.witness6 (enc := enc) (C := Try.checked) false ⟨#[], #[.string ByteArray.empty], []⟩ 8 (by kernel_rfl) (by kernel_rfl) (by kernel_rfl) (by kernel_rfl)) ?_
  intro W base args ds gs before hval0 hW hcnd _
  have hval : ∀ (j : Nat) t v, Try.f3.params[j]? = some t → args[j]? = some v → Value.okWide Try.prog W .any base t v := hval0
  have hW' := hW
  obtain ⟨p, q, hA0, hV, rfl, hfz, hnd⟩ := hW
  have hA : DataW.TrodAll enc Try.prog W 0 (fun _ => true) true Try.f3.params.toList args.toList ds p := hA0
  rw [Try.params3] at hA hval
  obtain ⟨v0, vs0, d0, ds0, p0, q0, hargs, rfl, rfl, h0, r0⟩ := trodAll_cons hA
  obtain ⟨rfl, rfl, rfl⟩ := trodAll_nil r0
  obtain rfl : args = #[v0] := by cases args; simp_all
  obtain ⟨rfl, rfl⟩ := trodVars_none hV
  obtain ⟨a0, rfl, rfl, rfl, w0⟩ := open_string Try.underlying9 (hval 0 9 v0 rfl rfl) h0
  clear hA0 hval0
  refine (walk3 a0 W w0).mono fun e W' ⟨he, bel⟩ => ?_
  subst he
  exact ⟨_, rfl, _, _, _, [], _, [], hW', trodAll_mk1 (shut_bool Try.underlying4 _), (trodAll_cons_mk (shut_string Try.underlying9 w0) trodAll_mk0), rfl, bel.frame _, fun h => by cases h⟩

theorem over : Rows.fnIsLineBreakCountsEncodedBreaksRow.holds Try.pinned (OpenSpec.ofChange Rows.fnIsLineBreakCountsEncodedBreaksSpec) :=
  OpenClaim.holds_of_wide 3 Try.f3 rfl rfl rfl rfl rfl rfl rfl ⟨rfl, rfl, rfl, rfl, rfl⟩ rfl rfl rfl rfl rfl (by kernel_rfl) Try.func3 (by kernel_rfl)
    (of_decide_eq_true (by kernel_rfl)) (by unfold Func.isWrapper; first | (rw [if_pos (by decide +kernel)]; kernel_rfl) | (rw [if_neg (by decide +kernel)]; exact ⟨rfl, rfl⟩))
    (fun os started H enc _ => lifted os started H enc)

/-- THE STATEMENT. -/
theorem proved : Rows.FnIsLineBreakCountsEncodedBreaksSaid :=
  over
end Go.Proofs.Qxb6605713a.fnIsLineBreakCountsEncodedBreaks
