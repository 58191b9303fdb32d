/-
  'Rows.FnMeasureFieldsRebuildTheWordSaid': the four readers of a measure word by plain contracts (remainders and quotients of the word), then the law's own walk, parted on the two flags; the sum is closed by linear arithmetic. The frame is the seat's own shell.
-/
import Derived.Test.Qxb6613624aRows
import Derived.WalkKit
import Derived.ProofKit
import Derived.OpenShut
import Derived.ShutString
import Derived.Laws.BitsAllLaws
namespace Go.Proofs.Qxb6613624a.fnMeasureFieldsRebuildTheWord
open Go.ChangeShapes Go.WideShapes Go.ChangeAt Go.RowKit
open Go.ChangeMaps (open_string shut_string)
set_option linter.unusedVariables false      -- a walk need not use every 'w<i>' (that an integer argument fits its kind)

theorem own : ownKnob Try.prog.godebug = none := by kernel_rfl

theorem mask17 (a : Int) (h0 : 0 ≤ a) (h1 : a < 4294967296) : bits .and .u32 a 131071 = a % 131072 := by
  rw [u32_and a 131071 h0 h1 (by omega) (by omega)]
  have := Nat.and_two_pow_sub_one_eq_mod a.toNat 17
  simp only [show (131071 : Int).toNat = 2 ^ 17 - 1 from by decide, this]
  omega
theorem mask7 (a : Int) (h0 : 0 ≤ a) (h1 : a < 4294967296) : bits .and .u32 a 127 = a % 128 := by
  rw [u32_and a 127 h0 h1 (by omega) (by omega)]
  have := Nat.and_two_pow_sub_one_eq_mod a.toNat 7
  simp only [show (127 : Int).toNat = 2 ^ 7 - 1 from by decide, this]
  omega
theorem bit_of (n k : Nat) : ((n &&& 2 ^ k) != 0) = decide (n / 2 ^ k % 2 = 1) := by
  have h2 := Nat.testBit_eq_decide_div_mod_eq (x := n) (i := k)
  by_cases hc : n / 2 ^ k % 2 = 1
  · have ht : n.testBit k = true := by rw [h2]; simp [hc]
    have hb : (n &&& 2 ^ k).testBit k = true := by simp [ht]
    have : (n &&& 2 ^ k) ≠ 0 := by intro h; rw [h] at hb; simp at hb
    simp [hc, this]
  · have ht : n.testBit k = false := by rw [h2]; simp [hc]
    have : (n &&& 2 ^ k) = 0 := by
      apply Nat.eq_of_testBit_eq
      intro i
      by_cases hi : k = i
      · subst hi; simp [ht]
      · simp [hi]
    simp [hc, this]
theorem bit24 (a : Int) (h0 : 0 ≤ a) (h1 : a < 4294967296) : (bits .and .u32 a 16777216 != 0) = decide (a / 16777216 % 2 = 1) := by
  rw [u32_and a 16777216 h0 h1 (by omega) (by omega)]
  have h := bit_of a.toNat 24
  have e : ((((a.toNat &&& (16777216 : Int).toNat : Nat)) : Int) != 0) = ((a.toNat &&& 2 ^ 24) != 0) := by
    rw [show (16777216 : Int).toNat = 2 ^ 24 from by decide, Bool.eq_iff_iff]; simp only [bne_iff_ne, ne_eq]; omega
  rw [e, h, Bool.eq_iff_iff]; simp only [decide_eq_true_eq]; omega
theorem bit25 (a : Int) (h0 : 0 ≤ a) (h1 : a < 4294967296) : (bits .and .u32 a 33554432 != 0) = decide (a / 33554432 % 2 = 1) := by
  rw [u32_and a 33554432 h0 h1 (by omega) (by omega)]
  have h := bit_of a.toNat 25
  have e : ((((a.toNat &&& (33554432 : Int).toNat : Nat)) : Int) != 0) = ((a.toNat &&& 2 ^ 25) != 0) := by
    rw [show (33554432 : Int).toNat = 2 ^ 25 from by decide, Bool.eq_iff_iff]; simp only [bne_iff_ne, ne_eq]; omega
  rw [e, h, Bool.eq_iff_iff]; simp only [decide_eq_true_eq]; omega
theorem ret_bool {b : Bool} (h : b = true) : Ending.returned (.bool b) = .returned (.bool true) := by rw [h]
theorem len_any (a0 : Int) (h0 : 0 ≤ a0) (h1 : a0 < 4294967296) (w : World) :
    Calls Try.prog 14 #[.int .u32 a0] w fun e w' => e = .returned (.int .i64 (a0 % 131072)) ∧ w' = w := by
  have hm := mask17 a0 h0 h1
  go_enter Try.func14, Try.ntmps14
  go_wp2
  go_ret
  exact ⟨rfl, rfl⟩
theorem chain_any (a0 : Int) (h0 : 0 ≤ a0) (h1 : a0 < 4294967296) (w : World) :
    Calls Try.prog 15 #[.int .u32 a0] w fun e w' => e = .returned (.int .i64 (a0 / 131072 % 128)) ∧ w' = w := by
  have hm := mask7 (a0 / 131072) (by omega) (by omega)
  go_enter Try.func15, Try.ntmps15
  go_wp2
  go_ret
  exact ⟨rfl, rfl⟩
theorem arr_any (a0 : Int) (h0 : 0 ≤ a0) (h1 : a0 < 4294967296) (w : World) :
    Calls Try.prog 16 #[.int .u32 a0] w fun e w' => e = .returned (.bool (decide (a0 / 16777216 % 2 = 1))) ∧ w' = w := by
  have hm := bit24 a0 h0 h1
  go_enter Try.func16, Try.ntmps16
  go_wp2
  go_ret
  exact ⟨rfl, rfl⟩
theorem nul_any (a0 : Int) (h0 : 0 ≤ a0) (h1 : a0 < 4294967296) (w : World) :
    Calls Try.prog 17 #[.int .u32 a0] w fun e w' => e = .returned (.bool (decide (a0 / 33554432 % 2 = 1))) ∧ w' = w := by
  have hm := bit25 a0 h0 h1
  go_enter Try.func17, Try.ntmps17
  go_wp2
  go_ret
  exact ⟨rfl, rfl⟩
theorem walk (a0 : Int) (w0 : (Lit.int .u32 a0).wf = true) (w : World) :
    Calls Try.prog 5 #[.int .u32 a0] w fun e w' => e = .returned (.bool true) ∧ Grown w w' := by
  obtain ⟨h0, h1'⟩ := bounds_u32 w0
  have h1 : a0 < 4294967296 := by omega
  by_cases c1 : a0 / 16777216 % 2 = 1 <;> by_cases c2 : a0 / 33554432 % 2 = 1
  all_goals
    go_enter Try.func5, Try.ntmps5
    go_wp2_with (first | (go_at_call 14; refine (len_any _ h0 h1 _).mono ?_; rintro e w' ⟨rfl, rfl⟩) | (go_at_call 15; refine (chain_any _ h0 h1 _).mono ?_; rintro e w' ⟨rfl, rfl⟩) | (go_at_call 16; refine (arr_any _ h0 h1 _).mono ?_; rintro e w' ⟨rfl, rfl⟩) | (go_at_call 17; refine (nul_any _ h0 h1 _).mono ?_; rintro e w' ⟨rfl, rfl⟩))
    go_ret
    exact ⟨ret_bool (beq_iff_eq.2 (by omega)), Grown.refl _⟩

/-! ### THE ROW's STEP: WRITTEN OUT: LEAVE IT -/
set_option maxRecDepth 100000 in
theorem lifted (os : Os) (started : os.Started) (H : Type) (enc : TypeId × Value → H) :
    ReturnsInHanded {} Try.checked os 5 .any (Rows.fnMeasureFieldsRebuildTheWordSpec.pre6 enc Try.prog Try.f5 Rows.fnMeasureFieldsRebuildTheWordRow.domain false) (Rows.fnMeasureFieldsRebuildTheWordSpec.post enc Try.prog Try.f5 false true false false) := by
  refine returnsInHanded_of_change (C := Try.checked) own started (by kernel_rfl) Try.func5
    (ChangeSpec.witness6 (enc := enc) (C := Try.checked) false ⟨#[], #[.int .u32 0], []⟩ 8 (by kernel_rfl) (by kernel_rfl) (by kernel_rfl) (by kernel_rfl)) ?_
  intro W base args ds gs before hval0 hW hcnd _
  have hval : ∀ (j : Nat) t v, Try.f5.params[j]? = some t → args[j]? = some v → Value.okWide Try.prog W .any base t v := hval0
  have hW' := hW
  obtain ⟨p, q, hA0, hV, rfl, hfz, hnd⟩ := hW
  have hA : DataW.TrodAll enc Try.prog W 0 (fun _ => true) true Try.f5.params.toList args.toList ds p := hA0
  rw [Try.params5] at hA hval
  obtain ⟨v0, vs0, d0, ds0, p0, q0, hargs, rfl, rfl, h0, r0⟩ := trodAll_cons hA
  obtain ⟨rfl, rfl, rfl⟩ := trodAll_nil r0
  obtain rfl : args = #[v0] := by cases args; simp_all
  obtain ⟨rfl, rfl⟩ := trodVars_none hV
  obtain ⟨a0, rfl, rfl, rfl, w0⟩ := open_int Try.underlying30 (hval 0 30 v0 rfl rfl) h0
  clear hA0 hval0
  simp only [List.append_nil] at hW'
  refine (walk a0 w0 W).mono fun e W' ⟨he, hg⟩ => ?_
  subst he
  exact ⟨_, rfl, post_of_same (pa := []) (pv := []) hW' (fun _ _ _ => (trodAll_cons_mk (shut_bool Try.underlying4 _) trodAll_mk0)) (fun sp _ => (trodAll_cons_mk (shut_int Try.underlying30 w0) trodAll_mk0)) (fun _ _ => rfl) rfl
    (hg.frame _) hg.2.1 (ok_one (by kernel_rfl) rfl (okWide_bool_mk Try.underlying4 _))⟩

theorem over : Rows.fnMeasureFieldsRebuildTheWordRow.holds Try.pinned (OpenSpec.ofChange Rows.fnMeasureFieldsRebuildTheWordSpec) :=
  OpenClaim.holds_of_wide 5 Try.f5 rfl rfl rfl rfl rfl rfl rfl ⟨rfl, rfl, rfl, rfl, rfl⟩ rfl rfl rfl rfl rfl (by kernel_rfl) Try.func5 (by kernel_rfl)
    (of_decide_eq_true (by kernel_rfl)) (by unfold Func.isWrapper; first | (rw [if_pos (by decide +kernel)]; kernel_rfl) | (rw [if_neg (by decide +kernel)]; exact ⟨rfl, rfl⟩))
    (fun os started H enc _ => lifted os started H enc)

/-- ████ THE STATEMENT ████ -/
theorem proved : Rows.FnMeasureFieldsRebuildTheWordSaid :=
  over
end Go.Proofs.Qxb6613624a.fnMeasureFieldsRebuildTheWord
