/-
  'Rows.FnDefListValueAboveStaysWhenImportingBelowSaid': the law's own walk over its callees' contracts, and the row's step (the kit's own way, 'Below').
-/
import Derived.Test.Qxb6613624aCommon
import Derived.LaidEql
namespace Go.Proofs.Qxb6613624a
open Go.RowKit Go.Maps

theorem eq25_same (d : Nat) (a : Addr) (w : World) : (Op.equalIn (d + 1) 25 (.pointer (some a)) (.pointer (some a))).run Try.prog w = .ok true w := by
  simp [Op.equalIn, run_underlying Try.underlying25, Try.sizeOf60, run_sameAddr_same]
theorem neq25_same (a : Addr) (w : World) : (binOp .neq 25 (.pointer (some a)) (.pointer (some a))).run Try.prog w = .ok (.bool false) w := by
  simp only [binOp]
  simp [Op.equal, Op.maxDepth, eq25_same 9999]

theorem above_any (sc lv g : Nat) (up : Option Addr) (ks : List (List UInt8)) (tx : List UInt8 → ByteArray) (w : World) (h : Level w sc lv g up ks tx) :
    Calls Try.prog 13 #[.pointer (some ⟨sc, 0, none⟩)] w fun e w' => e = .returned (.pointer up) ∧ w' = w := by
  have hc := h.up0
  clear h
  go_enter Try.func13, Try.ntmps13
  go_wp2
  go_ret
  exact ⟨rfl, rfl⟩

set_option maxRecDepth 100000 in
set_option maxHeartbeats 2000000 in
theorem walk4 (a1 a2 a3 a4 : Option Addr) (s1 s2 s3 s4 : List ByteArray) (c1 c2 c3 c4 : Nat) (w : World) (h1 : Strs w a1 s1) (n1 : s1.length ≤ maxLen) (h2 : Strs w a2 s2) (n2 : s2.length ≤ maxLen) (h3 : Strs w a3 s3) (n3 : s3.length ≤ maxLen) (h4 : Strs w a4 s4) (n4 : s4.length ≤ maxLen)
    (z1 : Hid (∀ s ∈ s1, s.size ≤ maxLen)) (z3 : Hid (∀ s ∈ s3, s.size ≤ maxLen)) :
    Calls Try.prog 4 #[.slice a1 s1.length c1, .slice a2 s2.length c2, .slice a3 s3.length c3, .slice a4 s4.length c4] w fun e w' => e = .returned (.bool true) ∧ Below w.heap.size w w' := by
  have m1 := n1
  have m2 := n2
  have m3 := n3
  have m4 := n4
  unfold maxLen at m1 m2 m3 m4
  have hpe := neq25_same
  go_enter Try.func4, Try.ntmps4
  go_wp2_with fail
  refine (bytes12 a1 s1 c1 a2 s2 c2 a3 s3 c3 a4 s4 c4 w h1 n1 h2 n2 h3 n3 h4 n4).mono ?_
  rintro e w' ⟨⟨b, rfl⟩, rfl⟩
  cases b with
  | false =>
    go_wp2
    go_ret
    exact ⟨rfl, Below.refl _ _⟩
  | true =>
    by_cases g1 : 4096 < (s1.length : Int)
    · go_wp2
      go_ret
      exact ⟨rfl, Below.refl _ _⟩
    by_cases g2 : 4096 < (s2.length : Int)
    · go_wp2
      go_ret
      exact ⟨rfl, Below.refl _ _⟩
    by_cases g3 : 4096 < (s3.length : Int)
    · go_wp2
      go_ret
      exact ⟨rfl, Below.refl _ _⟩
    by_cases g4 : 4096 < (s4.length : Int)
    · go_wp2
      go_ret
      exact ⟨rfl, Below.refl _ _⟩
    go_wp2_with fail
    refine (addStrings _ a1 s1 c1 _ h1 n1).mono ?_
    rintro e w'' ⟨⟨r1, rfl⟩, rfl⟩
    go_wp2_with fail
    refine (addStrings _ a2 s2 c2 _ h2 n2).mono ?_
    rintro e w' ⟨⟨r2, rfl⟩, rfl⟩
    go_wp2_with fail
    refine (addStrings _ a3 s3 c3 _ h3 n3).mono ?_
    rintro e w'' ⟨⟨r3, rfl⟩, rfl⟩
    go_wp2_with fail
    refine (addStrings _ a4 s4 c4 _ h4 n4).mono ?_
    rintro e w' ⟨⟨r4, rfl⟩, rfl⟩
    by_cases g5 : 1048576 < r4
    · go_wp2
      go_ret
      exact ⟨rfl, Below.refl _ _⟩
    by_cases g6 : s2.length = s1.length
    rotate_left
    · have g7 : ((s2.length : Int) != (s1.length : Int)) = true := by rw [bne_iff_ne]; omega
      go_wp2
      go_ret
      exact ⟨rfl, Below.refl _ _⟩
    by_cases g8 : s4.length = s3.length
    rotate_left
    · have g7 : ((s2.length : Int) != (s1.length : Int)) = false := by rw [g6]; simp
      have g9 : ((s4.length : Int) != (s3.length : Int)) = true := by rw [bne_iff_ne]; omega
      clear g6
      go_wp2
      go_ret
      exact ⟨rfl, Below.refl _ _⟩
    have g7 : ((s2.length : Int) != (s1.length : Int)) = false := by rw [g6]; simp
    have g9 : ((s4.length : Int) != (s3.length : Int)) = false := by rw [g8]; simp
    have G6 : Hid (s2.length = s1.length) := g6
    have G8 : Hid (s4.length = s3.length) := g8
    clear g6 g8
    go_wp2_with fail
    by_cases k1 : s1.length = 0
    · have k2 : ((s1.length : Int) == 0) = true := by rw [k1]; rfl
      refine (zzImport_no none _ a1 a2 s1 s2 c1 c2 w' G6.out k1).mono ?_
      rintro e w1 ⟨rfl, hb1⟩
      have h31 := h3.below hb1
      have h41 := h4.below hb1
      clear k1 h1 h2 h3 h4
      go_wp2_with fail
      by_cases k3 : s3.length = 0
      · have k4 : ((s3.length : Int) == 0) = true := by rw [k3]; rfl
        refine (zzImport_no none _ a3 a4 s3 s4 c3 c4 w1 G8.out k3).mono ?_
        rintro e w2 ⟨rfl, hb2⟩
        clear k3
        go_wp2
        go_ret
        exact ⟨rfl, hb1.trans (hb2.mono hb1.size)⟩
      · have k4 : ((s3.length : Int) == 0) = false := by rw [beq_eq_false_iff_ne]; omega
        refine (zzImport_yes none _ a3 a4 s3 s4 c3 c4 w1 h31 h41 G8.out (by omega) z3 (by omega)).mono ?_
        rintro e w2 ⟨⟨D, sc, lv, g, hM, hK, rfl, hlv, hsc, hL⟩, hb2⟩
        have HR : Hid (Reads s3 s4 (keysOf D) (txt D)) := reads_of hK hM
        have h32 := h31.below hb2
        have h42 := h41.below hb2
        clear k3 hM hK
        go_wp2_with fail
        refine (above_any sc lv g none (keysOf D) (txt D) w2 hL).mono ?_
        rintro e w2' ⟨rfl, rfl⟩
        go_wp2_with fail
        refine (levelReads_yes sc lv g none (keysOf D) (txt D) a3 a4 s3 s4 c3 c4 _ hL h32 h42 G8.out (by omega) HR).mono ?_
        rintro e w3 ⟨rfl, hb3⟩
        go_wp2
        go_ret
        exact ⟨rfl, (hb1.trans (hb2.mono hb1.size)).trans (hb3.mono (Nat.le_trans hb1.size hb2.size))⟩
    · have k2 : ((s1.length : Int) == 0) = false := by rw [beq_eq_false_iff_ne]; omega
      refine (zzImport_yes none _ a1 a2 s1 s2 c1 c2 w' h1 h2 G6.out (by omega) z1 (by omega)).mono ?_
      rintro e w1 ⟨⟨D1, sc1, lv1, g1', hM1, hK1, rfl, hlv1, hsc1, hL1⟩, hb1⟩
      have HR1 : Hid (Reads s1 s2 (keysOf D1) (txt D1)) := reads_of hK1 hM1
      have h11 := h1.below hb1
      have h21 := h2.below hb1
      have h31 := h3.below hb1
      have h41 := h4.below hb1
      clear k1 hM1 hK1 h1 h2 h3 h4
      go_wp2_with fail
      by_cases k3 : s3.length = 0
      · have k4 : ((s3.length : Int) == 0) = true := by rw [k3]; rfl
        refine (zzImport_no _ _ a3 a4 s3 s4 c3 c4 w1 G8.out k3).mono ?_
        rintro e w2 ⟨rfl, hb2⟩
        have hL2 := hL1.below hb2
        have h12 := h11.below hb2
        have h22 := h21.below hb2
        clear k3 hL1
        go_wp2_with fail
        refine (levelReads_yes sc1 lv1 g1' none (keysOf D1) (txt D1) a1 a2 s1 s2 c1 c2 _ hL2 h12 h22 G6.out (by omega) HR1).mono ?_
        rintro e w3 ⟨rfl, hb3⟩
        go_wp2
        go_ret
        exact ⟨rfl, (hb1.trans (hb2.mono hb1.size)).trans (hb3.mono (Nat.le_trans hb1.size hb2.size))⟩
      · have k4 : ((s3.length : Int) == 0) = false := by rw [beq_eq_false_iff_ne]; omega
        refine (zzImport_yes _ _ a3 a4 s3 s4 c3 c4 w1 h31 h41 G8.out (by omega) z3 (by omega)).mono ?_
        rintro e w2 ⟨⟨D, sc, lv, g, hM, hK, rfl, hlv, hsc, hL⟩, hb2⟩
        have HR : Hid (Reads s3 s4 (keysOf D) (txt D)) := reads_of hK hM
        have hL2 := hL1.below hb2
        have h12 := h11.below hb2
        have h22 := h21.below hb2
        have h32 := h31.below hb2
        have h42 := h41.below hb2
        clear k3 hM hK hL1
        go_wp2_with fail
        refine (above_any sc lv g _ (keysOf D) (txt D) w2 hL).mono ?_
        rintro e w2' ⟨rfl, rfl⟩
        go_wp2_with fail
        refine (levelReads_yes sc lv g _ (keysOf D) (txt D) a3 a4 s3 s4 c3 c4 _ hL h32 h42 G8.out (by omega) HR).mono ?_
        rintro e w3 ⟨rfl, hb3⟩
        have hL3 := hL2.below hb3
        have h13 := h12.below hb3
        have h23 := h22.below hb3
        clear hL2 hL
        go_wp2_with fail
        refine (levelReads_yes sc1 lv1 g1' none (keysOf D1) (txt D1) a1 a2 s1 s2 c1 c2 _ hL3 h13 h23 G6.out (by omega) HR1).mono ?_
        rintro e w4 ⟨rfl, hb4⟩
        go_wp2
        go_ret
        exact ⟨rfl, ((hb1.trans (hb2.mono hb1.size)).trans (hb3.mono (Nat.le_trans hb1.size hb2.size))).trans (hb4.mono (Nat.le_trans hb1.size (Nat.le_trans hb2.size hb3.size)))⟩
end Go.Proofs.Qxb6613624a
namespace Go.Proofs.Qxb6613624a.fnDefListValueAboveStaysWhenImportingBelow
open Go.ChangeShapes Go.WideShapes Go.ChangeAt Go.RowKit
open Go.ChangeMaps (open_string shut_string)

set_option maxRecDepth 100000 in
theorem lifted (os : Os) (started : os.Started) (H : Type) (enc : TypeId × Value → H) :
    ReturnsInHanded {} Try.checked os 4 .any (Rows.fnDefListValueAboveStaysWhenImportingBelowSpec.pre6 enc Try.prog Try.f4 Rows.fnDefListValueAboveStaysWhenImportingBelowRow.domain false) (Rows.fnDefListValueAboveStaysWhenImportingBelowSpec.post enc Try.prog Try.f4 false true false false) := by
  refine returnsInHanded_of_change (C := Try.checked) own started (by kernel_rfl) Try.func4
    (ChangeSpec.witness6 (enc := enc) (C := Try.checked) false ⟨#[], #[.slice none 0 0, .slice none 0 0, .slice none 0 0, .slice none 0 0], []⟩ 8 (by kernel_rfl) (by kernel_rfl) (by kernel_rfl) (by kernel_rfl)) ?_
  intro W base args ds gs before hval0 hW hcnd _
  have hval : ∀ (j : Nat) t v, Try.f4.params[j]? = some t → args[j]? = some v → Value.okWide Try.prog W .any base t v := hval0
  have hW' := hW
  obtain ⟨p, q, hA0, hV, rfl, hfz, hnd⟩ := hW
  have hA : DataW.TrodAll enc Try.prog W 0 (fun _ => true) true Try.f4.params.toList args.toList ds p := hA0
  rw [Try.params4] at hA hval
  obtain ⟨v0, vs0, d0, ds0, p0, q0, hargs, rfl, rfl, h0, r0⟩ := trodAll_cons hA
  obtain ⟨v1, vs1, d1, ds1, p1, q1, rfl, rfl, rfl, h1, r1⟩ := trodAll_cons r0
  obtain ⟨v2, vs2, d2, ds2, p2, q2, rfl, rfl, rfl, h2, r2⟩ := trodAll_cons r1
  obtain ⟨v3, vs3, d3, ds3, p3, q3, rfl, rfl, rfl, h3, r3⟩ := trodAll_cons r2
  obtain ⟨rfl, rfl, rfl⟩ := trodAll_nil r3
  obtain rfl : args = #[v0, v1, v2, v3] := by cases args; simp_all
  obtain ⟨rfl, rfl⟩ := trodVars_none hV
  obtain ⟨a0, len0, cap0, rfl⟩ := okWide_slice Try.underlying22 (hval 0 22 v0 rfl rfl)
  have lt0 : ∀ x ∈ p0, x.block < W.heap.size := by obtain ⟨m, hm⟩ := h0; exact DataW.trod_lt m _ _ _ hm
  obtain ⟨s0, rfl, t0, n0, z0⟩ := view h0
  obtain ⟨a1, len1, cap1, rfl⟩ := okWide_slice Try.underlying22 (hval 1 22 v1 rfl rfl)
  have lt1 : ∀ x ∈ p1, x.block < W.heap.size := by obtain ⟨m, hm⟩ := h1; exact DataW.trod_lt m _ _ _ hm
  obtain ⟨s1, rfl, t1, n1, _⟩ := view h1
  obtain ⟨a2, len2, cap2, rfl⟩ := okWide_slice Try.underlying22 (hval 2 22 v2 rfl rfl)
  have lt2 : ∀ x ∈ p2, x.block < W.heap.size := by obtain ⟨m, hm⟩ := h2; exact DataW.trod_lt m _ _ _ hm
  obtain ⟨s2, rfl, t2, n2, z2⟩ := view h2
  obtain ⟨a3, len3, cap3, rfl⟩ := okWide_slice Try.underlying22 (hval 3 22 v3 rfl rfl)
  have lt3 : ∀ x ∈ p3, x.block < W.heap.size := by obtain ⟨m, hm⟩ := h3; exact DataW.trod_lt m _ _ _ hm
  obtain ⟨s3, rfl, t3, n3, _⟩ := view h3
  clear hA0 hval0
  refine (walk4 a0 a1 a2 a3 s0 s1 s2 s3 cap0 cap1 cap2 cap3 W t0 n0 t1 n1 t2 n2 t3 n3 z0 z2).mono fun e W' ⟨he, bel⟩ => ?_
  subst he
  exact ⟨_, rfl, _, _, _, [], _, [], hW', trodAll_mk1 (shut_bool Try.underlying4 _), (trodAll_cons_mk (Below.trod laidOut (by kernel_rfl) (of_decide_eq_true (by kernel_rfl)) h0 bel lt0) (trodAll_cons_mk (Below.trod laidOut (by kernel_rfl) (of_decide_eq_true (by kernel_rfl)) h1 bel lt1) (trodAll_cons_mk (Below.trod laidOut (by kernel_rfl) (of_decide_eq_true (by kernel_rfl)) h2 bel lt2) (trodAll_cons_mk (Below.trod laidOut (by kernel_rfl) (of_decide_eq_true (by kernel_rfl)) h3 bel lt3) trodAll_mk0)))), rfl, bel.frame _, fun h => by cases h⟩

theorem over : Rows.fnDefListValueAboveStaysWhenImportingBelowRow.holds Try.pinned (OpenSpec.ofChange Rows.fnDefListValueAboveStaysWhenImportingBelowSpec) :=
  OpenClaim.holds_of_wide 4 Try.f4 rfl rfl rfl rfl rfl rfl rfl ⟨rfl, rfl, rfl, rfl, rfl⟩ rfl rfl rfl rfl rfl (by kernel_rfl) Try.func4 (by kernel_rfl)
    (of_decide_eq_true (by kernel_rfl)) (by unfold Func.isWrapper; first | (rw [if_pos (by decide +kernel)]; kernel_rfl) | (rw [if_neg (by decide +kernel)]; exact ⟨rfl, rfl⟩))
    (fun os started H enc _ => lifted os started H enc)

/-- THE STATEMENT. -/
theorem proved : Rows.FnDefListValueAboveStaysWhenImportingBelowSaid :=
  over
end Go.Proofs.Qxb6613624a.fnDefListValueAboveStaysWhenImportingBelow
