/-
  'Rows.FnDefListValueIsTheImportedValueInNameOrderSaid': the law's own walk over its callees' contracts, and the row's step (the kit's own way, 'Below').
-/
import Derived.Test.Qxb6613624aCommon
namespace Go.Proofs.Qxb6613624a
open Go.RowKit Go.Maps

set_option maxRecDepth 100000 in
set_option maxHeartbeats 1000000 in
theorem walk3 (l : ByteArray) (a1 a2 : Option Addr) (s1 s2 : List ByteArray) (c1 c2 : Nat) (w : World) (hl : l.size ≤ maxLen) (h1 : Strs w a1 s1) (n1 : s1.length ≤ maxLen) (h2 : Strs w a2 s2) (n2 : s2.length ≤ maxLen) (hsz : Hid (∀ s ∈ s1, s.size ≤ maxLen)) :
    Calls Try.prog 3 #[.string l, .slice a1 s1.length c1, .slice a2 s2.length c2] w fun e w' => e = .returned (.bool true) ∧ Below w.heap.size w w' := by
  have m1 := n1
  have m2 := n2
  unfold maxLen at m1 m2 hl
  go_enter Try.func3, Try.ntmps3
  go_wp2_with fail
  refine (bytes8 l a1 s1 c1 a2 s2 c2 w h1 n1 h2 n2).mono ?_
  rintro e w' ⟨⟨b, rfl⟩, rfl⟩
  cases b with
  | false =>
    go_wp2
    go_ret
    exact ⟨rfl, Below.refl _ _⟩
  | true =>
    by_cases g1 : 1048576 < (l.size : Int)
    · go_wp2
      go_ret
      exact ⟨rfl, Below.refl _ _⟩
    by_cases g2 : 4096 < (s1.length : Int)
    · go_wp2
      go_ret
      exact ⟨rfl, Below.refl _ _⟩
    by_cases g3 : 4096 < (s2.length : Int)
    · go_wp2
      go_ret
      exact ⟨rfl, Below.refl _ _⟩
    go_wp2_with fail
    refine (addStrings _ a1 s1 c1 _ h1 n1).mono ?_
    rintro e w'' ⟨⟨r1, rfl⟩, rfl⟩
    go_wp2_with fail
    refine (addStrings _ a2 s2 c2 _ h2 n2).mono ?_
    rintro e w' ⟨⟨r2, rfl⟩, rfl⟩
    by_cases g4 : 1048576 < r2
    · go_wp2
      go_ret
      exact ⟨rfl, Below.refl _ _⟩
    by_cases g5 : s2.length = s1.length
    · have g6 : ((s2.length : Int) != (s1.length : Int)) = false := by rw [g5]; simp
      have G5 : Hid (s2.length = s1.length) := g5
      clear g5
      go_wp2_with fail
      by_cases g7 : s1.length = 0
      · have g8 : ((s1.length : Int) == 0) = true := by rw [g7]; rfl
        refine (zzImport_no none l a1 a2 s1 s2 c1 c2 w' G5.out g7).mono ?_
        rintro e w1 ⟨rfl, hb⟩
        clear g7
        go_wp2
        go_ret
        exact ⟨rfl, hb⟩
      · have g8 : ((s1.length : Int) == 0) = false := by rw [beq_eq_false_iff_ne]; omega
        refine (zzImport_yes none l a1 a2 s1 s2 c1 c2 w' h1 h2 G5.out (by omega) hsz (by omega)).mono ?_
        rintro e w1 ⟨⟨D, sc, lv, g, hM, hK, rfl, hlv, hsc, hL⟩, hb⟩
        have HR : Hid (Reads s1 s2 (keysOf D) (txt D)) := reads_of hK hM
        have h1' := h1.below hb
        have h2' := h2.below hb
        clear g7 hM hK
        go_wp2_with fail
        refine (levelReads_yes sc lv g none (keysOf D) (txt D) a1 a2 s1 s2 c1 c2 w1 hL h1' h2' G5.out (by omega) HR).mono ?_
        rintro e w2 ⟨rfl, hb2⟩
        go_wp2
        go_ret
        exact ⟨rfl, hb.trans (hb2.mono hb.size)⟩
    · have g6 : ((s2.length : Int) != (s1.length : Int)) = true := by rw [bne_iff_ne]; omega
      go_wp2
      go_ret
      exact ⟨rfl, Below.refl _ _⟩

end Go.Proofs.Qxb6613624a
namespace Go.Proofs.Qxb6613624a.fnDefListValueIsTheImportedValueInNameOrder
open Go.ChangeShapes Go.WideShapes Go.ChangeAt Go.RowKit
open Go.ChangeMaps (open_string shut_string)

set_option maxRecDepth 100000 in
theorem lifted (os : Os) (started : os.Started) (H : Type) (enc : TypeId × Value → H) :
    ReturnsInHanded {} Try.checked os 3 .any (Rows.fnDefListValueIsTheImportedValueInNameOrderSpec.pre6 enc Try.prog Try.f3 Rows.fnDefListValueIsTheImportedValueInNameOrderRow.domain false) (Rows.fnDefListValueIsTheImportedValueInNameOrderSpec.post enc Try.prog Try.f3 false true false false) := by
  refine returnsInHanded_of_change (C := Try.checked) own started (by kernel_rfl) Try.func3
    (ChangeSpec.witness6 (enc := enc) (C := Try.checked) false ⟨#[], #[.string ByteArray.empty, .slice none 0 0, .slice none 0 0], []⟩ 8 (by kernel_rfl) (by kernel_rfl) (by kernel_rfl) (by kernel_rfl)) ?_
  intro W base args ds gs before hval0 hW hcnd _
  have hval : ∀ (j : Nat) t v, Try.f3.params[j]? = some t → args[j]? = some v → Value.okWide Try.prog W .any base t v := hval0
  have hW' := hW
  obtain ⟨p, q, hA0, hV, rfl, hfz, hnd⟩ := hW
  have hA : DataW.TrodAll enc Try.prog W 0 (fun _ => true) true Try.f3.params.toList args.toList ds p := hA0
  rw [Try.params3] at hA hval
  obtain ⟨v0, vs0, d0, ds0, p0, q0, hargs, rfl, rfl, h0, r0⟩ := trodAll_cons hA
  obtain ⟨v1, vs1, d1, ds1, p1, q1, rfl, rfl, rfl, h1, r1⟩ := trodAll_cons r0
  obtain ⟨v2, vs2, d2, ds2, p2, q2, rfl, rfl, rfl, h2, r2⟩ := trodAll_cons r1
  obtain ⟨rfl, rfl, rfl⟩ := trodAll_nil r2
  obtain rfl : args = #[v0, v1, v2] := by cases args; simp_all
  obtain ⟨rfl, rfl⟩ := trodVars_none hV
  obtain ⟨a0, rfl, rfl, rfl, w0⟩ := open_string Try.underlying9 (hval 0 9 v0 rfl rfl) h0
  obtain ⟨a1, len1, cap1, rfl⟩ := okWide_slice Try.underlying22 (hval 1 22 v1 rfl rfl)
  have lt1 : ∀ x ∈ p1, x.block < W.heap.size := by obtain ⟨m, hm⟩ := h1; exact DataW.trod_lt m _ _ _ hm
  obtain ⟨s1, rfl, t1, n1, z1⟩ := view h1
  obtain ⟨a2, len2, cap2, rfl⟩ := okWide_slice Try.underlying22 (hval 2 22 v2 rfl rfl)
  have lt2 : ∀ x ∈ p2, x.block < W.heap.size := by obtain ⟨m, hm⟩ := h2; exact DataW.trod_lt m _ _ _ hm
  obtain ⟨s2, rfl, t2, n2, _⟩ := view h2
  clear hA0 hval0
  refine (walk3 a0 a1 a2 s1 s2 cap1 cap2 W w0 t1 n1 t2 n2 z1).mono fun e W' ⟨he, bel⟩ => ?_
  subst he
  exact ⟨_, rfl, _, _, _, [], _, [], hW', trodAll_mk1 (shut_bool Try.underlying4 _), (trodAll_cons_mk (shut_string Try.underlying9 w0) (trodAll_cons_mk (Below.trod laidOut (by kernel_rfl) (of_decide_eq_true (by kernel_rfl)) h1 bel lt1) (trodAll_cons_mk (Below.trod laidOut (by kernel_rfl) (of_decide_eq_true (by kernel_rfl)) h2 bel lt2) trodAll_mk0))), rfl, bel.frame _, fun h => by cases h⟩

theorem over : Rows.fnDefListValueIsTheImportedValueInNameOrderRow.holds Try.pinned (OpenSpec.ofChange Rows.fnDefListValueIsTheImportedValueInNameOrderSpec) :=
  OpenClaim.holds_of_wide 3 Try.f3 rfl rfl rfl rfl rfl rfl rfl ⟨rfl, rfl, rfl, rfl, rfl⟩ rfl rfl rfl rfl rfl (by kernel_rfl) Try.func3 (by kernel_rfl)
    (of_decide_eq_true (by kernel_rfl)) (by unfold Func.isWrapper; first | (rw [if_pos (by decide +kernel)]; kernel_rfl) | (rw [if_neg (by decide +kernel)]; exact ⟨rfl, rfl⟩))
    (fun os started H enc _ => lifted os started H enc)

/-- THE STATEMENT. -/
theorem proved : Rows.FnDefListValueIsTheImportedValueInNameOrderSaid :=
  over
end Go.Proofs.Qxb6613624a.fnDefListValueIsTheImportedValueInNameOrder
