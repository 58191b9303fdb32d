/-
  FnHooksAgreeWithAccessorsAndActions: its walk without a lifecycle, and where at most postStart is set.
-/
import Derived.Test.Qxb6605713aTable
import Derived.Deep.RegionWith
import Derived.Deep.DeepCutAuto
namespace Go.Proofs.Qxb6605713a
open Go.RowKit
/-- What handlerOfKind hands back for kind k. -/
def HP (w : World) (k : Int) (p : Option Addr) : Prop := (isKind k = false ∧ p = none) ∨ (isKind k = true ∧ ∃ h, p = some ⟨h, 0, none⟩ ∧ HandlerOf w h k)
theorem HP.below {w w' : World} {k : Int} {p : Option Addr} (h : HP w k p) (hb : Below w.heap.size w w') : HP w' k p := by
  rcases h with h | ⟨h1, a, h2, h3⟩
  · exact Or.inl h
  · exact Or.inr ⟨h1, a, h2, h3.below hb⟩
theorem handler_any (k : Int) (w : World) : Calls Try.prog 14 #[.int .i8 k] w fun e w' => (∃ p, e = .returned (.pointer p) ∧ Hid (HP w' k p)) ∧ Below w.heap.size w w' := by
  cases h : isKind k with
  | true =>
    refine (handler_some k w h).mono ?_
    rintro e w' ⟨⟨hh, rfl, _, hH⟩, hb⟩
    exact ⟨⟨_, rfl, Or.inr ⟨h, hh, rfl, hH⟩⟩, hb⟩
  | false =>
    refine (handler_none k w h).mono ?_
    rintro e w' ⟨rfl, rfl⟩
    exact ⟨⟨_, rfl, Or.inl ⟨h, rfl⟩⟩, Below.refl _ _⟩
/-- An empty container. -/
def cont0 : Array Value := #[.string ⟨#[]⟩, .slice none 0 0, .slice none 0 0, .slice none 0 0, .slice none 0 0, .string ⟨#[]⟩, .pointer none, .string ⟨#[]⟩, .slice none 0 0, .slice none 0 0, .pointer none, .pointer none, .pointer none]
theorem neq29_same (a : Addr) (w : World) : (binOp .neq 29 (.pointer (some a)) (.pointer (some a))).run Try.prog w = .ok (.bool false) w := by
  simp only [binOp]
  simp [Op.equal, Op.maxDepth, eq29_same 9999]
theorem kname_empty (k : Int) : (kname k).toList.isEmpty = !isKind k := by
  cases h : isKind k with
  | true =>
    rcases isKind_cases h with rfl | rfl | rfl | rfl <;> simp [kname, ByteArray.toList_eq]
  | false =>
    obtain ⟨h1, h2, h3, h4⟩ := isKind_none h
    simp only [beq_eq_false_iff_ne, ne_eq] at h1 h2 h3 h4
    simp [kname, h1, h2, h3, h4, ByteArray.toList_eq]

set_option maxRecDepth 100000 in
set_option maxHeartbeats 1000000 in
theorem walk5_no (pk qk : Int) (w : World) :
    Calls Try.prog 5 #[.bool false, .int .i8 pk, .int .i8 qk] w fun e w' => e = .returned (.bool true) ∧ Below w.heap.size w w' := by
  have hH : Hooked (w.alloc (.cells cont0 39)) w.heap.size none none := Or.inl ⟨by simp [cont0], rfl, rfl⟩
  have hb0 := (Below.refl _ w).alloc (Nat.le_refl _) (.cells cont0 39)
  go_enter Try.func5, Try.ntmps5
  go_wp2_with fail
  refine (hooks_any w.heap.size none none _ hH).mono ?_
  rintro e w1 ⟨⟨v, rfl, hown⟩, hb1⟩
  obtain ⟨a, c, hv⟩ : ∃ a c, v = .slice a 0 c := by
    rcases hown.2 with ⟨h, _⟩ | ⟨g, cap, cur, h, _⟩
    · exact ⟨_, _, h⟩
    · exact ⟨_, _, h⟩
  rw [hv]
  have hs : (w.alloc (.cells cont0 39)).heap.size = w.heap.size + 1 := by simp
  have hbb : Below w.heap.size w w1 := hb0.trans (hb1.mono (by rw [hs]; omega))
  clear hs hb1 hown hb0 hH
  go_wp2_with fail
  refine wp_loop_rounds 1 ?_
  rw [rounds_succ]
  go_wp2
  go_ret
  exact ⟨rfl, hbb⟩

/-- The world behind 'c.Lifecycle = &Lifecycle{..}'. -/
def W2 (w2 : World) (c : Nat) (p q : Option Addr) : World := (w2.setCell ⟨c, 6, none⟩ (.pointer (some ⟨w2.heap.size, 0, none⟩))).alloc (.cells #[.pointer p, .pointer q] 41)
theorem cell_W2 {w2 : World} {c : Nat} {p q : Option Addr} {a : Addr} {v : Value} (h : w2.cell? a = some v) (hne : a.off ≠ 6) : (W2 w2 c p q).cell? a = some v := by
  have h1 : (w2.setCell ⟨c, 6, none⟩ (.pointer (some ⟨w2.heap.size, 0, none⟩))).cell? a = some v := by
    rw [World.cell?_setCell_other _ _ _ _ (fun e => hne (by rw [← e]))]; exact h
  rw [W2, ((Below.refl _ (w2.setCell ⟨c, 6, none⟩ (.pointer (some ⟨w2.heap.size, 0, none⟩)))).alloc (Nat.le_refl _) _).cell (World.block_lt_of_cell? _ _ h1)]
  exact h1
theorem HP.W2 {w2 : World} {c : Nat} {p q : Option Addr} {k : Int} {r : Option Addr} (h : HP w2 k r) : HP (W2 w2 c p q) k r := by
  rcases h with h | ⟨h1, a, h2, b, h3, h4, h5, h6⟩
  · exact Or.inl h
  · exact Or.inr ⟨h1, a, h2, b, cell_W2 h3 (by simp), cell_W2 h4 (by simp), cell_W2 h5 (by simp), cell_W2 h6 (by simp)⟩
theorem hooked_W2 {w2 : World} {c : Nat} {p q : Option Addr} (h : w2.cell? ⟨c, 6, none⟩ = some (.pointer none)) : Hooked (W2 w2 c p q) c p q := by
  have hlt := World.block_lt_of_cell? w2 _ h
  have hs : (w2.setCell ⟨c, 6, none⟩ (.pointer (some ⟨w2.heap.size, 0, none⟩))).heap.size = w2.heap.size := by simp [World.setCell]
  have h1 : (w2.setCell ⟨c, 6, none⟩ (.pointer (some ⟨w2.heap.size, 0, none⟩))).cell? ⟨c, 6, none⟩ = some (.pointer (some ⟨w2.heap.size, 0, none⟩)) := World.cell?_setCell_same _ _ _ h
  have hb : (W2 w2 c p q).heap[w2.heap.size]? = some (.cells #[.pointer p, .pointer q] 41 (0, 0)) := by
    have := heap_alloc_new (w2.setCell ⟨c, 6, none⟩ (.pointer (some ⟨w2.heap.size, 0, none⟩))) (.cells #[.pointer p, .pointer q] 41 (0, 0))
    rw [hs] at this
    exact this
  refine Or.inr ⟨w2.heap.size, ?_, ?_, ?_⟩
  · rw [W2, ((Below.refl _ (w2.setCell ⟨c, 6, none⟩ (.pointer (some ⟨w2.heap.size, 0, none⟩)))).alloc (Nat.le_refl _) _).cell (World.block_lt_of_cell? _ _ h1)]
    exact h1
  · rw [cell_of_row _ _ _ _ _ _ hb]; rfl
  · rw [cell_of_row _ _ _ _ _ _ hb]; rfl

set_option maxRecDepth 100000 in
set_option maxHeartbeats 4000000 in
theorem walk5_none (pk qk : Int) (kp : isKind pk = false) (kq : isKind qk = false) (w : World) :
    Calls Try.prog 5 #[.bool true, .int .i8 pk, .int .i8 qk] w fun e w' => e = .returned (.bool true) ∧ Below w.heap.size w w' := by
  have hb0 := (Below.refl _ w).alloc (Nat.le_refl _) (.cells cont0 39)
  have c6 : (w.alloc (.cells cont0 39)).cell? ⟨w.heap.size, 6, none⟩ = some (.pointer none) := by simp [cont0]
  have f6 : (w.alloc (.cells cont0 39)).frozen? ⟨w.heap.size, 6, none⟩ = false := by simp
  have hs : (w.alloc (.cells cont0 39)).heap.size = w.heap.size + 1 := by simp
  have HS : Hid ((w.alloc (.cells cont0 39)).heap.size = w.heap.size + 1) := hs
  clear hs
  go_enter Try.func5, Try.ntmps5
  go_wp2_with fail
  refine (handler_any pk _).mono ?_
  rintro e w1 ⟨⟨p, rfl, HPp⟩, hb1⟩
  go_wp2_with fail
  refine (handler_any qk _).mono ?_
  rintro e w2 ⟨⟨q, rfl, HPq⟩, hb2⟩
  have HPp2 : Hid (HP w2 pk p) := HPp.out.below hb2
  have hbb : Below (w.alloc (.cells cont0 39)).heap.size (w.alloc (.cells cont0 39)) w2 := hb1.trans (hb2.mono hb1.size)
  have hlt : w.heap.size < (w.alloc (.cells cont0 39)).heap.size := by rw [HS.out]; omega
  have c62 : w2.cell? ⟨w.heap.size, 6, none⟩ = some (.pointer none) := by rw [hbb.cell hlt]; exact c6
  have f62 : w2.frozen? ⟨w.heap.size, 6, none⟩ = false := by rw [hbb.frozen hlt]; exact f6
  have hsz : w.heap.size < w2.heap.size := Nat.lt_of_lt_of_le hlt hbb.size
  clear c6 f6 hlt hb1 hb2 HPp
  go_wp2_with fail
  have HK := hooked_W2 (p := p) (q := q) c62
  have HP1 : Hid (HP (W2 w2 w.heap.size p q) pk p) := HPp2.out.W2
  have HQ1 : Hid (HP (W2 w2 w.heap.size p q) qk q) := HPq.out.W2
  have hbW : Below w.heap.size w (W2 w2 w.heap.size p q) :=
    ((hb0.trans (hbb.mono (by rw [HS.out]; omega))).setCell (Nat.le_refl _) _).alloc (by simp [World.setCell]; omega) _
  refine (hooks_any w.heap.size p q (W2 w2 w.heap.size p q) HK).mono ?_
  rintro e w3 ⟨⟨v, rfl, hown⟩, hb3⟩
  have Kw3 := HK.below hb3
  have HP3 : Hid (HP w3 pk p) := HP1.out.below hb3
  have HQ3 : Hid (HP w3 qk q) := HQ1.out.below hb3
  have Dw3 : Below w.heap.size w w3 := hbW.trans (hb3.mono hbW.size)
  clear HK HP1 HQ1 hbW hb3 HPp2 HPq c62 f62 hbb
  rcases HP3.out with ⟨_, rfl⟩ | ⟨bad, _⟩
  rotate_left
  · rw [kp] at bad; contradiction
  rcases HQ3.out with ⟨_, rfl⟩ | ⟨bad, _⟩
  rotate_left
  · rw [kq] at bad; contradiction
  obtain ⟨a, c, hv⟩ : ∃ a c, v = .slice a 0 c := by
    rcases hown.2 with ⟨h, _⟩ | ⟨g, cap, cur, h, _⟩
    · exact ⟨_, _, h⟩
    · exact ⟨_, _, h⟩
  have ep : (kname pk).toList.isEmpty = true := by rw [kname_empty, kp]; rfl
  have eq' : (kname qk).toList.isEmpty = true := by rw [kname_empty, kq]; rfl
  rw [hv] at hown ⊢
  clear hown HP3 HQ3
  go_wp2_with fail
  refine (kindName_any pk _).mono ?_
  rintro e w4 ⟨rfl, rfl⟩
  go_wp2_with fail
  refine (kindName_any qk _).mono ?_
  rintro e w3 ⟨rfl, rfl⟩
  go_wp2_with fail
  refine wp_loop_rounds 1 ?_

  rw [rounds_succ]
  go_wp2
  go_ret
  exact ⟨rfl, Dw3⟩

set_option maxRecDepth 100000 in
set_option maxHeartbeats 4000000 in
theorem walk5_p (pk qk : Int) (kp : isKind pk = true) (kq : isKind qk = false) (w : World) :
    Calls Try.prog 5 #[.bool true, .int .i8 pk, .int .i8 qk] w fun e w' => e = .returned (.bool true) ∧ Below w.heap.size w w' := by
  have hb0 := (Below.refl _ w).alloc (Nat.le_refl _) (.cells cont0 39)
  have c6 : (w.alloc (.cells cont0 39)).cell? ⟨w.heap.size, 6, none⟩ = some (.pointer none) := by simp [cont0]
  have f6 : (w.alloc (.cells cont0 39)).frozen? ⟨w.heap.size, 6, none⟩ = false := by simp
  have hs : (w.alloc (.cells cont0 39)).heap.size = w.heap.size + 1 := by simp
  have HS : Hid ((w.alloc (.cells cont0 39)).heap.size = w.heap.size + 1) := hs
  clear hs
  go_enter Try.func5, Try.ntmps5
  go_wp2_with fail
  refine (handler_any pk _).mono ?_
  rintro e w1 ⟨⟨p, rfl, HPp⟩, hb1⟩
  go_wp2_with fail
  refine (handler_any qk _).mono ?_
  rintro e w2 ⟨⟨q, rfl, HPq⟩, hb2⟩
  have HPp2 : Hid (HP w2 pk p) := HPp.out.below hb2
  have hbb : Below (w.alloc (.cells cont0 39)).heap.size (w.alloc (.cells cont0 39)) w2 := hb1.trans (hb2.mono hb1.size)
  have hlt : w.heap.size < (w.alloc (.cells cont0 39)).heap.size := by rw [HS.out]; omega
  have c62 : w2.cell? ⟨w.heap.size, 6, none⟩ = some (.pointer none) := by rw [hbb.cell hlt]; exact c6
  have f62 : w2.frozen? ⟨w.heap.size, 6, none⟩ = false := by rw [hbb.frozen hlt]; exact f6
  have hsz : w.heap.size < w2.heap.size := Nat.lt_of_lt_of_le hlt hbb.size
  clear c6 f6 hlt hb1 hb2 HPp
  go_wp2_with fail
  have HK := hooked_W2 (p := p) (q := q) c62
  have HP1 : Hid (HP (W2 w2 w.heap.size p q) pk p) := HPp2.out.W2
  have HQ1 : Hid (HP (W2 w2 w.heap.size p q) qk q) := HPq.out.W2
  have hbW : Below w.heap.size w (W2 w2 w.heap.size p q) :=
    ((hb0.trans (hbb.mono (by rw [HS.out]; omega))).setCell (Nat.le_refl _) _).alloc (by simp [World.setCell]; omega) _
  refine (hooks_any w.heap.size p q (W2 w2 w.heap.size p q) HK).mono ?_
  rintro e w3 ⟨⟨v, rfl, hown⟩, hb3⟩
  have Kw3 := HK.below hb3
  have HP3 : Hid (HP w3 pk p) := HP1.out.below hb3
  have HQ3 : Hid (HP w3 qk q) := HQ1.out.below hb3
  have Dw3 : Below w.heap.size w w3 := hbW.trans (hb3.mono hbW.size)
  clear HK HP1 HQ1 hbW hb3 HPp2 HPq c62 f62 hbb
  rcases HP3.out with ⟨bad, _⟩ | ⟨_, hp, rfl, hHpw3⟩
  · rw [kp] at bad; contradiction
  rcases HQ3.out with ⟨_, rfl⟩ | ⟨bad, _⟩
  rotate_left
  · rw [kq] at bad; contradiction
  obtain ⟨g, cap, hv⟩ := row_slice hown (by simp [hcnt])
  have ep : (kname pk).toList.isEmpty = false := by rw [kname_empty, kp]; rfl
  have eq' : (kname qk).toList.isEmpty = true := by rw [kname_empty, kq]; rfl
  rw [hv] at hown ⊢
  have k0w3 := hown.cellAt 0 (by simp [hcnt])
  have k1w3 := hown.cellAt 1 (by simp [hcnt])
  simp [hpart, postB] at k0w3 k1w3
  have hcc : hcnt (some (⟨hp, 0, none⟩ : Addr)) + hcnt none = 1 := rfl
  rw [hcc]
  clear hown hcc HP3 HQ3
  have hpe := neq29_same
  go_wp2_with fail
  refine (kindName_any pk _).mono ?_
  rintro e w4 ⟨rfl, rfl⟩
  go_wp2_with fail
  refine (kindName_any qk _).mono ?_
  rintro e w3 ⟨rfl, rfl⟩
  go_wp2_with fail
  refine wp_loop_rounds 2 ?_

  rw [rounds_succ]
  go_upto_region 20 with (fail)
  generalize hW : w3.alloc (.cells #[Value.string ⟨#[112, 111, 115, 116, 83, 116, 97, 114, 116]⟩, Value.pointer (some ⟨hp, 0, none⟩)] 46) = x1a
  have Bx1a : Below w3.heap.size w3 x1a := by rw [← hW]; exact (Below.refl _ _).alloc (Nat.le_refl _) _
  have lx1a : x1a.cell? ⟨w3.heap.size, 1, none⟩ = some (.pointer (some ⟨hp, 0, none⟩)) := by rw [← hW]; simp
  have Kx1a := Kw3.below Bx1a
  have hHpx1a := hHpw3.below Bx1a
  clear hW
  have hw : IntKind.i64.wrap 0 = 0 := by rfl
  go_cut [68] from 53 to 68 (fun c x1 => c = .bool false ∧ Below x1a.heap.size x1a x1)
  case first =>
    go_region_with (first
      | (go_at_call 16; refine (postStart_any w.heap.size (some ⟨hp, 0, none⟩) none _ ?_).mono ?_; exact Kx1a; rintro e w' ⟨rfl, rfl⟩)
      | (go_at_call 15; refine (kindName_any _ _).mono ?_; rintro e w' ⟨rfl, rfl⟩)
      | (go_at_call 17; refine (action_any hp pk _ kp ?_).mono ?_; exact hHpx1a; rintro e w' ⟨rfl, hb45⟩))
    all_goals
      go_wp2_with fail
      go_meet
      exact ⟨rfl, (Below.refl _ x1a).drew.trans hb45⟩
  case rest =>
    revert wc
    intro x1 hcut
    obtain ⟨rfl, hcut⟩ := hcut
    have Bx1 : Below w3.heap.size w3 x1 := Bx1a.trans (hcut.mono Bx1a.size)
    have Kx1 := Kw3.below Bx1
    have Dx1 : Below w.heap.size w x1 := Dw3.trans (Bx1.mono Dw3.size)
    clear hw hcut Bx1 lx1a Kx1a hHpx1a Bx1a
    go_wp2_with fail
    rw [rounds_succ]
    go_wp2
    go_ret
    exact ⟨rfl, Dx1⟩
end Go.Proofs.Qxb6605713a
