/-
  FnHooksAgreeWithAccessorsAndActions: its walk where preStop alone is set.
-/
import Derived.Test.Qxb6605713aAgree
namespace Go.Proofs.Qxb6605713a
open Go.RowKit
set_option maxRecDepth 100000 in
set_option maxHeartbeats 4000000 in
theorem walk5_q (pk qk : Int) (kp : isKind pk = false) (kq : isKind qk = true) (w : World) :
    Calls Try.prog 5 #[.bool true, .int .i8 pk, .int .i8 qk] w fun e w' => e = .returned (.bool true) ∧ Below w.heap.size w w' := by
  have hb0 := (Below.refl _ w).alloc (Nat.le_refl _) (.cells cont0 39)
  have c6 : (w.alloc (.cells cont0 39)).cell? ⟨w.heap.size, 6, none⟩ = some (.pointer none) := by simp [cont0]
  have f6 : (w.alloc (.cells cont0 39)).frozen? ⟨w.heap.size, 6, none⟩ = false := by simp
  have hs : (w.alloc (.cells cont0 39)).heap.size = w.heap.size + 1 := by simp
  have HS : Hid ((w.alloc (.cells cont0 39)).heap.size = w.heap.size + 1) := hs
  clear hs
  go_enter Try.func5, Try.ntmps5
  go_wp2_with fail
  refine (handler_any pk _).mono ?_
  rintro e w1 ⟨⟨p, rfl, HPp⟩, hb1⟩
  go_wp2_with fail
  refine (handler_any qk _).mono ?_
  rintro e w2 ⟨⟨q, rfl, HPq⟩, hb2⟩
  have HPp2 : Hid (HP w2 pk p) := HPp.out.below hb2
  have hbb : Below (w.alloc (.cells cont0 39)).heap.size (w.alloc (.cells cont0 39)) w2 := hb1.trans (hb2.mono hb1.size)
  have hlt : w.heap.size < (w.alloc (.cells cont0 39)).heap.size := by rw [HS.out]; omega
  have c62 : w2.cell? ⟨w.heap.size, 6, none⟩ = some (.pointer none) := by rw [hbb.cell hlt]; exact c6
  have f62 : w2.frozen? ⟨w.heap.size, 6, none⟩ = false := by rw [hbb.frozen hlt]; exact f6
  have hsz : w.heap.size < w2.heap.size := Nat.lt_of_lt_of_le hlt hbb.size
  clear c6 f6 hlt hb1 hb2 HPp
  go_wp2_with fail
  have HK := hooked_W2 (p := p) (q := q) c62
  have HP1 : Hid (HP (W2 w2 w.heap.size p q) pk p) := HPp2.out.W2
  have HQ1 : Hid (HP (W2 w2 w.heap.size p q) qk q) := HPq.out.W2
  have hbW : Below w.heap.size w (W2 w2 w.heap.size p q) :=
    ((hb0.trans (hbb.mono (by rw [HS.out]; omega))).setCell (Nat.le_refl _) _).alloc (by simp [World.setCell]; omega) _
  refine (hooks_any w.heap.size p q (W2 w2 w.heap.size p q) HK).mono ?_
  rintro e w3 ⟨⟨v, rfl, hown⟩, hb3⟩
  have Kw3 := HK.below hb3
  have HP3 : Hid (HP w3 pk p) := HP1.out.below hb3
  have HQ3 : Hid (HP w3 qk q) := HQ1.out.below hb3
  have Dw3 : Below w.heap.size w w3 := hbW.trans (hb3.mono hbW.size)
  clear HK HP1 HQ1 hbW hb3 HPp2 HPq c62 f62 hbb
  rcases HP3.out with ⟨_, rfl⟩ | ⟨bad, _⟩
  rotate_left
  · rw [kp] at bad; contradiction
  rcases HQ3.out with ⟨bad, _⟩ | ⟨_, hq, rfl, hHqw3⟩
  · rw [kq] at bad; contradiction
  obtain ⟨g, cap, hv⟩ := row_slice hown (by simp [hcnt])
  have ep : (kname pk).toList.isEmpty = true := by rw [kname_empty, kp]; rfl
  have eq' : (kname qk).toList.isEmpty = false := by rw [kname_empty, kq]; rfl
  rw [hv] at hown ⊢
  have k0w3 := hown.cellAt 0 (by simp [hcnt])
  have k1w3 := hown.cellAt 1 (by simp [hcnt])
  simp [hpart, preB] at k0w3 k1w3
  have hcc : hcnt none + hcnt (some (⟨hq, 0, none⟩ : Addr)) = 1 := rfl
  rw [hcc]
  clear hown hcc HP3 HQ3
  have hpe := neq29_same
  go_wp2_with fail
  refine (kindName_any pk _).mono ?_
  rintro e w4 ⟨rfl, rfl⟩
  go_wp2_with fail
  refine (kindName_any qk _).mono ?_
  rintro e w3 ⟨rfl, rfl⟩
  go_wp2_with fail
  refine wp_loop_rounds 2 ?_

  rw [rounds_succ]
  go_upto_region 23 with (fail)
  generalize hW : w3.alloc (.cells #[Value.string ⟨#[112, 114, 101, 83, 116, 111, 112]⟩, Value.pointer (some ⟨hq, 0, none⟩)] 46) = x1a
  have Bx1a : Below w3.heap.size w3 x1a := by rw [← hW]; exact (Below.refl _ _).alloc (Nat.le_refl _) _
  have lx1a : x1a.cell? ⟨w3.heap.size, 1, none⟩ = some (.pointer (some ⟨hq, 0, none⟩)) := by rw [← hW]; simp
  have Kx1a := Kw3.below Bx1a
  have hHqx1a := hHqw3.below Bx1a
  clear hW
  have hw : IntKind.i64.wrap 0 = 0 := by rfl
  go_cut [90] from 72 to 90 (fun c x1 => c = .bool false ∧ Below x1a.heap.size x1a x1)
  case first =>
    go_region_with (first
      | (go_at_call 18; refine (preStop_any w.heap.size none (some ⟨hq, 0, none⟩) _ ?_).mono ?_; exact Kx1a; rintro e w' ⟨rfl, rfl⟩)
      | (go_at_call 15; refine (kindName_any _ _).mono ?_; rintro e w' ⟨rfl, rfl⟩)
      | (go_at_call 17; refine (action_any hq qk _ kq ?_).mono ?_; exact hHqx1a; rintro e w' ⟨rfl, hb45⟩))
    all_goals
      go_wp2_with fail
      go_meet
      exact ⟨rfl, (Below.refl _ x1a).drew.trans hb45⟩
  case rest =>
    revert wc
    intro x1 hcut
    obtain ⟨rfl, hcut⟩ := hcut
    have Bx1 : Below w3.heap.size w3 x1 := Bx1a.trans (hcut.mono Bx1a.size)
    have Kx1 := Kw3.below Bx1
    have Dx1 : Below w.heap.size w x1 := Dw3.trans (Bx1.mono Dw3.size)
    clear hw hcut Bx1 lx1a Kx1a hHqx1a Bx1a
    go_wp2_with fail
    rw [rounds_succ]
    go_wp2
    go_ret
    exact ⟨rfl, Dx1⟩
end Go.Proofs.Qxb6605713a
