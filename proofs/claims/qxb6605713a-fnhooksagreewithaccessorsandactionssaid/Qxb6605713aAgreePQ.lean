/-
  FnHooksAgreeWithAccessorsAndActions: its walk where both are set.
-/
import Derived.Test.Qxb6605713aAgree
namespace Go.Proofs.Qxb6605713a
open Go.RowKit
set_option maxRecDepth 100000 in
set_option maxHeartbeats 4000000 in
theorem walk5_pq (pk qk : Int) (kp : isKind pk = true) (kq : isKind qk = true) (w : World) :
    Calls Try.prog 5 #[.bool true, .int .i8 pk, .int .i8 qk] w fun e w' => e = .returned (.bool true) ∧ Below w.heap.size w w' := by
  have hb0 := (Below.refl _ w).alloc (Nat.le_refl _) (.cells cont0 39)
  have c6 : (w.alloc (.cells cont0 39)).cell? ⟨w.heap.size, 6, none⟩ = some (.pointer none) := by simp [cont0]
  have f6 : (w.alloc (.cells cont0 39)).frozen? ⟨w.heap.size, 6, none⟩ = false := by simp
  have hs : (w.alloc (.cells cont0 39)).heap.size = w.heap.size + 1 := by simp
  have HS : Hid ((w.alloc (.cells cont0 39)).heap.size = w.heap.size + 1) := hs
  clear hs
  go_enter Try.func5, Try.ntmps5
  go_wp2_with fail
  refine (handler_any pk _).mono ?_
  rintro e w1 ⟨⟨p, rfl, HPp⟩, hb1⟩
  go_wp2_with fail
  refine (handler_any qk _).mono ?_
  rintro e w2 ⟨⟨q, rfl, HPq⟩, hb2⟩
  have HPp2 : Hid (HP w2 pk p) := HPp.out.below hb2
  have hbb : Below (w.alloc (.cells cont0 39)).heap.size (w.alloc (.cells cont0 39)) w2 := hb1.trans (hb2.mono hb1.size)
  have hlt : w.heap.size < (w.alloc (.cells cont0 39)).heap.size := by rw [HS.out]; omega
  have c62 : w2.cell? ⟨w.heap.size, 6, none⟩ = some (.pointer none) := by rw [hbb.cell hlt]; exact c6
  have f62 : w2.frozen? ⟨w.heap.size, 6, none⟩ = false := by rw [hbb.frozen hlt]; exact f6
  have hsz : w.heap.size < w2.heap.size := Nat.lt_of_lt_of_le hlt hbb.size
  clear c6 f6 hlt hb1 hb2 HPp
  go_wp2_with fail
  have HK := hooked_W2 (p := p) (q := q) c62
  have HP1 : Hid (HP (W2 w2 w.heap.size p q) pk p) := HPp2.out.W2
  have HQ1 : Hid (HP (W2 w2 w.heap.size p q) qk q) := HPq.out.W2
  have hbW : Below w.heap.size w (W2 w2 w.heap.size p q) :=
    ((hb0.trans (hbb.mono (by rw [HS.out]; omega))).setCell (Nat.le_refl _) _).alloc (by simp [World.setCell]; omega) _
  refine (hooks_any w.heap.size p q (W2 w2 w.heap.size p q) HK).mono ?_
  rintro e w3 ⟨⟨v, rfl, hown⟩, hb3⟩
  have Kw3 := HK.below hb3
  have HP3 : Hid (HP w3 pk p) := HP1.out.below hb3
  have HQ3 : Hid (HP w3 qk q) := HQ1.out.below hb3
  have Dw3 : Below w.heap.size w w3 := hbW.trans (hb3.mono hbW.size)
  clear HK HP1 HQ1 hbW hb3 HPp2 HPq c62 f62 hbb
  rcases HP3.out with ⟨bad, _⟩ | ⟨_, hp, rfl, hHpw3⟩
  · rw [kp] at bad; contradiction
  rcases HQ3.out with ⟨bad, _⟩ | ⟨_, hq, rfl, hHqw3⟩
  · rw [kq] at bad; contradiction
  obtain ⟨g, cap, hv⟩ := row_slice hown (by simp [hcnt])
  have ep : (kname pk).toList.isEmpty = false := by rw [kname_empty, kp]; rfl
  have eq' : (kname qk).toList.isEmpty = false := by rw [kname_empty, kq]; rfl
  rw [hv] at hown ⊢
  have k0w3 := hown.cellAt 0 (by simp [hcnt])
  have k1w3 := hown.cellAt 1 (by simp [hcnt])
  have k2w3 := hown.cellAt 2 (by simp [hcnt])
  have k3w3 := hown.cellAt 3 (by simp [hcnt])
  simp [hpart, postB, preB] at k0w3 k1w3 k2w3 k3w3
  have hcc : hcnt (some (⟨hp, 0, none⟩ : Addr)) + hcnt (some (⟨hq, 0, none⟩ : Addr)) = 2 := rfl
  rw [hcc]
  clear hown hcc HP3 HQ3
  have hpe := neq29_same
  go_wp2_with fail
  refine (kindName_any pk _).mono ?_
  rintro e w4 ⟨rfl, rfl⟩
  go_wp2_with fail
  refine (kindName_any qk _).mono ?_
  rintro e w3 ⟨rfl, rfl⟩
  go_wp2_with fail
  refine wp_loop_rounds 3 ?_

  rw [rounds_succ]
  go_upto_region 20 with (fail)
  generalize hW : w3.alloc (.cells #[Value.string ⟨#[112, 111, 115, 116, 83, 116, 97, 114, 116]⟩, Value.pointer (some ⟨hp, 0, none⟩)] 46) = x1a
  have Bx1a : Below w3.heap.size w3 x1a := by rw [← hW]; exact (Below.refl _ _).alloc (Nat.le_refl _) _
  have lx1a : x1a.cell? ⟨w3.heap.size, 1, none⟩ = some (.pointer (some ⟨hp, 0, none⟩)) := by rw [← hW]; simp
  have Kx1a := Kw3.below Bx1a
  have hHpx1a := hHpw3.below Bx1a
  clear hW
  have hw : IntKind.i64.wrap 1 = 1 := by rfl
  go_cut [68] from 53 to 68 (fun c x1 => c = .bool false ∧ Below x1a.heap.size x1a x1)
  case first =>
    go_region_with (first
      | (go_at_call 16; refine (postStart_any w.heap.size (some ⟨hp, 0, none⟩) (some ⟨hq, 0, none⟩) _ ?_).mono ?_; exact Kx1a; rintro e w' ⟨rfl, rfl⟩)
      | (go_at_call 15; refine (kindName_any _ _).mono ?_; rintro e w' ⟨rfl, rfl⟩)
      | (go_at_call 17; refine (action_any hp pk _ kp ?_).mono ?_; exact hHpx1a; rintro e w' ⟨rfl, hb45⟩))
    all_goals
      go_wp2_with fail
      go_meet
      exact ⟨rfl, (Below.refl _ x1a).drew.trans hb45⟩
  case rest =>
    revert wc
    intro x1 hcut
    obtain ⟨rfl, hcut⟩ := hcut
    have Bx1 : Below w3.heap.size w3 x1 := Bx1a.trans (hcut.mono Bx1a.size)
    have Kx1 := Kw3.below Bx1
    have hHqx1 := hHqw3.below Bx1
    have k0x1 := cell_below k0w3 Bx1
    have k1x1 := cell_below k1w3 Bx1
    have k2x1 := cell_below k2w3 Bx1
    have k3x1 := cell_below k3w3 Bx1
    have Dx1 : Below w.heap.size w x1 := Dw3.trans (Bx1.mono Dw3.size)
    clear hw hcut Bx1 lx1a Kx1a hHpx1a Bx1a
    go_wp2_with fail
    rw [rounds_succ]
    go_upto_region 23 with (fail)
    generalize hW : x1.alloc (.cells #[Value.string ⟨#[112, 114, 101, 83, 116, 111, 112]⟩, Value.pointer (some ⟨hq, 0, none⟩)] 46) = x2a
    have Bx2a : Below x1.heap.size x1 x2a := by rw [← hW]; exact (Below.refl _ _).alloc (Nat.le_refl _) _
    have lx2a : x2a.cell? ⟨x1.heap.size, 1, none⟩ = some (.pointer (some ⟨hq, 0, none⟩)) := by rw [← hW]; simp
    have Kx2a := Kx1.below Bx2a
    have hHqx2a := hHqx1.below Bx2a
    clear hW
    have hw : IntKind.i64.wrap 1 = 1 := by rfl
    go_cut [90] from 72 to 90 (fun c x2 => c = .bool false ∧ Below x2a.heap.size x2a x2)
    case first =>
      go_region_with (first
        | (go_at_call 18; refine (preStop_any w.heap.size (some ⟨hp, 0, none⟩) (some ⟨hq, 0, none⟩) _ ?_).mono ?_; exact Kx2a; rintro e w' ⟨rfl, rfl⟩)
        | (go_at_call 15; refine (kindName_any _ _).mono ?_; rintro e w' ⟨rfl, rfl⟩)
        | (go_at_call 17; refine (action_any hq qk _ kq ?_).mono ?_; exact hHqx2a; rintro e w' ⟨rfl, hb45⟩))
      all_goals
        go_wp2_with fail
        go_meet
        exact ⟨rfl, (Below.refl _ x2a).drew.trans hb45⟩
    case rest =>
      revert wc
      intro x2 hcut
      obtain ⟨rfl, hcut⟩ := hcut
      have Bx2 : Below x1.heap.size x1 x2 := Bx2a.trans (hcut.mono Bx2a.size)
      have Kx2 := Kx1.below Bx2
      have hHqx2 := hHqx1.below Bx2
      have k0x2 := cell_below k0x1 Bx2
      have k1x2 := cell_below k1x1 Bx2
      have k2x2 := cell_below k2x1 Bx2
      have k3x2 := cell_below k3x1 Bx2
      have Dx2 : Below w.heap.size w x2 := Dx1.trans (Bx2.mono Dx1.size)
      clear hw hcut Bx2 lx2a Kx2a hHqx2a Bx2a
      go_wp2_with fail
      rw [rounds_succ]
      go_wp2
      go_ret
      exact ⟨rfl, Dx2⟩
end Go.Proofs.Qxb6605713a
