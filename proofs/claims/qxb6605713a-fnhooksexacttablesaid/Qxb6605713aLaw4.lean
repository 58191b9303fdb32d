/-
  'Rows.FnHooksExactTableSaid': the law's own walk over its callees' contracts, and the row's step.
-/
import Derived.Test.Qxb6605713aRows
import Derived.Test.Qxb6605713aTable
import Derived.Deep.DeepCutAuto
import Derived.ProofKit
import Derived.OpenShut
import Derived.ShutString
import Derived.SliceStrings
import Derived.ChangeOld
import Derived.Below
namespace Go.Proofs.Qxb6605713a
open Go.RowKit
theorem Strs.none {w : World} {ss : List ByteArray} (h : Strs w none ss) : ss = [] := by
  rcases h with h | ⟨b, off, h1, _⟩
  · exact h
  · cases h1
/-- A pointer to a number: nil, or the number lies there. -/
def IntAt (w : World) (p : Option Addr) : Prop := ∀ a, p = some a → ∃ x, w.cell? a = some (.int .i64 x)
theorem IntAt.below {w w' : World} {p : Option Addr} (h : IntAt w p) (hb : Below w.heap.size w w') : IntAt w' p := by
  intro a ha
  obtain ⟨x, hx⟩ := h a ha
  exact ⟨x, cell_below hx hb⟩
theorem sleep_any (p : Option Addr) (w : World) (h : IntAt w p) : Calls Try.prog 11 #[.pointer p] w fun e w' => (∃ r, e = .returned (.pointer r) ∧ Hid (r.isSome = p.isSome)) ∧ Below w.heap.size w w' := by
  cases p with
  | none =>
    refine (sleep_none w).mono ?_
    rintro e w' ⟨rfl, rfl⟩
    exact ⟨⟨none, rfl, rfl⟩, Below.refl _ _⟩
  | some a =>
    obtain ⟨x, hx⟩ := h a rfl
    refine (sleep_some a x w hx).mono ?_
    rintro e w' ⟨⟨hh, rfl⟩, hb⟩
    exact ⟨⟨_, rfl, rfl⟩, hb⟩
set_option maxRecDepth 100000 in
set_option maxHeartbeats 40000000 in
theorem walk4 (l0 l1 l2 : ByteArray) (a1 : Option Addr) (s1 : List ByteArray) (c1 : Nat) (a2 : Option Addr) (s2 : List ByteArray) (c2 : Nat) (b : Bool) (p6 p7 : Option Addr) (w : World) (h1 : Strs w a1 s1) (n1 : s1.length ≤ maxLen) (h2 : Strs w a2 s2) (n2 : s2.length ≤ maxLen) (i6 : Hid (IntAt w p6)) (i7 : Hid (IntAt w p7)) :
    Calls Try.prog 4 #[.string l0, .string l1, .string l2, .slice a1 s1.length c1, .slice a2 s2.length c2, .bool b, .pointer p6, .pointer p7] w fun e w' => e = .returned (.bool true) ∧ Below w.heap.size w w' := by
  have m1 := n1
  have m2 := n2
  unfold maxLen at m1 m2
  go_enter Try.func4, Try.ntmps4
  go_wp2_with fail
  refine (bytes9 l0 l1 l2 a1 s1 c1 a2 s2 c2 b p6 p7 w h1 n1 h2 n2).mono ?_
  rintro e w' ⟨⟨r, rfl⟩, rfl⟩
  cases r with
  | false => (go_wp2; go_ret; exact ⟨rfl, Below.refl _ _⟩)
  | true =>
    by_cases g0 : 1048576 < (l0.size : Int)
    · (go_wp2; go_ret; exact ⟨rfl, Below.refl _ _⟩)
    by_cases g1 : 1048576 < (l1.size : Int)
    · (go_wp2; go_ret; exact ⟨rfl, Below.refl _ _⟩)
    by_cases g2 : 1048576 < (l2.size : Int)
    · (go_wp2; go_ret; exact ⟨rfl, Below.refl _ _⟩)
    by_cases g3 : 65536 < (s1.length : Int)
    · (go_wp2; go_ret; exact ⟨rfl, Below.refl _ _⟩)
    by_cases g4 : 65536 < (s2.length : Int)
    · (go_wp2; go_ret; exact ⟨rfl, Below.refl _ _⟩)
    by_cases g5 : 1048576 < (l0.size : Int) + (l1.size : Int) + (l2.size : Int) + 16 * (s1.length : Int) + 16 * (s2.length : Int)
    · (go_wp2; go_ret; exact ⟨rfl, Below.refl _ _⟩)
    go_wp2_with fail
    go_loop [17, 18] (fun t i => ∃ k : Nat, ∃ z : Int, k ≤ s1.length ∧ i = .int .i64 k ∧ t = .int .i64 z) (fun _ i => s1.length - (intOf i).toNat)
    case atStart => exact ⟨0, _, Nat.zero_le _, rfl, rfl⟩
    case round =>
      obtain ⟨k, z, hk, rfl, rfl⟩ := hrel
      by_cases hlt : k < s1.length
      · obtain ⟨b', off, rfl, s, hck⟩ := h1.fst hlt
        clear h1 h2 i6 i7
        go_wp2
        all_goals try (go_ret; exact ⟨rfl, Below.refl _ _⟩)
        go_round
        case rel => exact ⟨k + 1, _, by omega, by go_num, rfl⟩
        case measure => simp [intOf]; omega
      · clear hk
        go_wp2_with fail
        go_loop [17, 19] (fun t i => ∃ k : Nat, ∃ z : Int, k ≤ s2.length ∧ i = .int .i64 k ∧ t = .int .i64 z) (fun _ i => s2.length - (intOf i).toNat)
        case atStart => exact ⟨0, _, Nat.zero_le _, rfl, rfl⟩
        case round =>
          obtain ⟨k, z, hk, rfl, rfl⟩ := hrel
          by_cases hlt : k < s2.length
          · obtain ⟨b', off, rfl, s, hck⟩ := h2.fst hlt
            clear h1 h2 i6 i7
            go_wp2
            all_goals try (go_ret; exact ⟨rfl, Below.refl _ _⟩)
            go_round
            case rel => exact ⟨k + 1, _, by omega, by go_num, rfl⟩
            case measure => simp [intOf]; omega
          · clear hk
            go_wp2_with fail
            refine (clone_any a1 s1 c1 _ h1 (by omega) (fun h => Strs.none (h ▸ h1))).mono ?_
            rintro e w1 ⟨⟨x3, y3, z3, rfl⟩, b1⟩
            go_wp2_with fail
            refine (clone_any a2 s2 c2 _ (h2.below b1) (by omega) (fun h => Strs.none (h ▸ h2))).mono ?_
            rintro e w2 ⟨⟨x4, y4, z4, rfl⟩, b2⟩
            have bb2 : Below w'.heap.size w' w2 := b1.trans (b2.mono b1.size)
            have J6 : Hid (IntAt w2 p6) := i6.out.below bb2
            have J7 : Hid (IntAt w2 p7) := i7.out.below bb2
            clear h1 h2 b1 b2 i6 i7
            go_upto_if 125 with (fail)
            go_cut [6] (fun v wc => ∃ p, v = .pointer p ∧ Hid (p.isSome = p6.isSome) ∧ Hid (IntAt wc p) ∧ Below w2.heap.size w2 wc)
            case first =>
              cases p6 with
              | none =>
                go_wp2
                go_meet
                case rel => exact ⟨none, rfl, rfl, (fun a h => by cases h), Below.refl _ _⟩
              | some ad =>
                obtain ⟨x, hx⟩ := J6.out ad rfl
                go_wp2
                go_meet
                case rel => exact ⟨_, rfl, rfl, (fun a h => by cases h; exact ⟨x, by simp⟩), (Below.refl _ _).alloc (Nat.le_refl _) _⟩
            case rest =>
            obtain ⟨r6, rfl, R6, I6, b3⟩ := hcut
            revert wc
            intro w3 I6 b3
            have J7c : Hid (IntAt w3 p7) := J7.out.below b3
            have bb3 : Below w'.heap.size w' w3 := bb2.trans (b3.mono bb2.size)
            clear J6 J7 b3 bb2 R6
            have J7 := J7c
            clear J7c
            go_upto_if 130 with (fail)
            go_cut [7] (fun v wc => ∃ p, v = .pointer p ∧ Hid (p.isSome = p7.isSome) ∧ Hid (IntAt wc p) ∧ Below w3.heap.size w3 wc)
            case first =>
              cases p7 with
              | none =>
                go_wp2
                go_meet
                case rel => exact ⟨none, rfl, rfl, (fun a h => by cases h), Below.refl _ _⟩
              | some ad =>
                obtain ⟨x, hx⟩ := J7.out ad rfl
                go_wp2
                go_meet
                case rel => exact ⟨_, rfl, rfl, (fun a h => by cases h; exact ⟨x, by simp⟩), (Below.refl _ _).alloc (Nat.le_refl _) _⟩
            case rest =>
            obtain ⟨r7, rfl, R7, I7, b4⟩ := hcut
            revert wc
            intro w4 I7 b4
            have I6' := I6.out.below b4
            have bb4 : Below w'.heap.size w' w4 := bb3.trans (b4.mono bb3.size)
            clear J7 b4 bb3 R7 I6
            go_wp2_with fail
            refine (sleep_any r6 w4 I6').mono ?_
            rintro e w5 ⟨⟨hp, rfl, S6⟩, b5⟩
            have I7' := I7.out.below b5
            clear I6' I7
            go_wp2_with fail
            refine (sleep_any r7 w5 I7').mono ?_
            rintro e w6 ⟨⟨hr, rfl, S7⟩, b6⟩
            have bb6 : Below w'.heap.size w' w6 := (bb4.trans (b5.mono bb4.size)).trans (b6.mono (Nat.le_trans bb4.size b5.size))
            clear I7' b5 b6 bb4
            cases b with
            | false =>
              go_wp2_with fail
              refine (hooks_any w6.heap.size none none _ (Or.inl ⟨by simp, rfl, rfl⟩)).mono ?_
              rintro e w7 ⟨⟨v, rfl, hown⟩, b7⟩
              obtain ⟨sa, sc, hv⟩ : ∃ sa sc, v = .slice sa 0 sc := by
                rcases hown.2 with ⟨h, _⟩ | ⟨g, cap, cur, h, _⟩
                · exact ⟨_, _, h⟩
                · exact ⟨_, _, h⟩
              rw [hv]
              have bz : Below w'.heap.size w' w7 := (bb6.alloc bb6.size _).trans (b7.mono (by simp; have := bb6.size; omega))
              clear hown hv b7 S6 S7 bb6
              cases r6 <;> cases r7
              all_goals
                go_wp2
                go_ret
                exact ⟨rfl, bz⟩
            | true =>
              go_wp2_with fail
              refine (hooks_any w6.heap.size hp hr _ (Or.inr ⟨w6.heap.size + 1, by simp, by simp, by simp⟩)).mono ?_
              rintro e w7 ⟨⟨v, rfl, hown⟩, b7⟩
              have bz : Below w'.heap.size w' w7 := ((bb6.alloc bb6.size _).alloc (by simp; have := bb6.size; omega) _).trans (b7.mono (by simp; have := bb6.size; omega))
              clear b7 bb6
              have hpe := eql29_same
              cases r6 <;> cases r7
              · obtain rfl : hp = none := by cases hp with
                  | none => rfl
                  | some _ => have := S6.out; simp at this
                obtain rfl : hr = none := by cases hr with
                  | none => rfl
                  | some _ => have := S7.out; simp at this
                obtain ⟨sa, sc, hv⟩ : ∃ sa sc, v = .slice sa 0 sc := by
                  rcases hown.2 with ⟨h, _⟩ | ⟨g, cap, cur, h, _⟩
                  · exact ⟨_, _, h⟩
                  · exact ⟨_, _, h⟩
                rw [hv]
                clear hown hv S6 S7
                go_wp2
                go_ret
                exact ⟨rfl, bz⟩
              · obtain rfl : hp = none := by cases hp with
                  | none => rfl
                  | some _ => have := S6.out; simp at this
                obtain ⟨a', ha'⟩ := Option.isSome_iff_exists.1 (show hr.isSome = true by rw [S7.out]; rfl)
                subst ha'
                obtain ⟨g, cap, hv⟩ := row_slice hown (by simp [hcnt])
                rw [hv] at hown ⊢
                have k0 := hown.cellAt 0 (by simp [hcnt])
                have k1 := hown.cellAt 1 (by simp [hcnt])
                simp [hpart, preB] at k0 k1
                have hcc : hcnt (none : Option Addr) + hcnt (some a') = 1 := rfl
                rw [hcc]
                clear hown hcc hv S6 S7
                go_wp2_with fail
                refine (hookIs_same ⟨#[112, 114, 101, 83, 116, 111, 112]⟩ a' _).mono ?_
                rintro e w8 ⟨rfl, b8⟩
                go_wp2
                go_ret
                exact ⟨rfl, bz.trans (b8.mono bz.size)⟩
              · obtain ⟨a, ha⟩ := Option.isSome_iff_exists.1 (show hp.isSome = true by rw [S6.out]; rfl)
                subst ha
                obtain rfl : hr = none := by cases hr with
                  | none => rfl
                  | some _ => have := S7.out; simp at this
                obtain ⟨g, cap, hv⟩ := row_slice hown (by simp [hcnt])
                rw [hv] at hown ⊢
                have k0 := hown.cellAt 0 (by simp [hcnt])
                have k1 := hown.cellAt 1 (by simp [hcnt])
                simp [hpart, postB] at k0 k1
                have hcc : hcnt (some a) + hcnt (none : Option Addr) = 1 := rfl
                rw [hcc]
                clear hown hcc hv S6 S7
                go_wp2_with fail
                refine (hookIs_same ⟨#[112, 111, 115, 116, 83, 116, 97, 114, 116]⟩ a _).mono ?_
                rintro e w8 ⟨rfl, b8⟩
                go_wp2
                go_ret
                exact ⟨rfl, bz.trans (b8.mono bz.size)⟩
              · obtain ⟨a, ha⟩ := Option.isSome_iff_exists.1 (show hp.isSome = true by rw [S6.out]; rfl)
                subst ha
                obtain ⟨a', ha'⟩ := Option.isSome_iff_exists.1 (show hr.isSome = true by rw [S7.out]; rfl)
                subst ha'
                obtain ⟨g, cap, hv⟩ := row_slice hown (by simp [hcnt])
                rw [hv] at hown ⊢
                have k0 := hown.cellAt 0 (by simp [hcnt])
                have k1 := hown.cellAt 1 (by simp [hcnt])
                have k2 := hown.cellAt 2 (by simp [hcnt])
                have k3 := hown.cellAt 3 (by simp [hcnt])
                simp [hpart, postB, preB] at k0 k1 k2 k3
                have hcc : hcnt (some a) + hcnt (some a') = 2 := rfl
                rw [hcc]
                clear hown hcc hv S6 S7
                go_wp2_with fail
                refine (hookIs_same ⟨#[112, 111, 115, 116, 83, 116, 97, 114, 116]⟩ a _).mono ?_
                rintro e w8 ⟨rfl, b8⟩
                have k2' := cell_below k2 b8
                have k3' := cell_below k3 b8
                go_wp2_with fail
                refine (hookIs_same ⟨#[112, 114, 101, 83, 116, 111, 112]⟩ a' _).mono ?_
                rintro e w9 ⟨rfl, b9⟩
                go_wp2
                go_ret
                exact ⟨rfl, (bz.trans (b8.mono bz.size)).trans (b9.mono (Nat.le_trans bz.size b8.size))⟩

theorem own : ownKnob Try.prog.godebug = none := by kernel_rfl
theorem laidOut : laidOutB Try.prog = true := by kernel_rfl
open Go.ChangeShapes Go.WideShapes Go.ChangeAt in
/-- A slice of strings among the arguments, as the walk reads it. -/
theorem view {H : Type} {enc : TypeId × Value → H} {W : World} {a : Option Addr} {len cap : Nat} {d : DataW H} {p : List MemPlace} (h : DataW.Trod enc Try.prog W 0 (fun _ => true) true 25 (.slice a len cap) d p) :
    ∃ ss : List ByteArray, ss.length = len ∧ Strs W a ss ∧ len ≤ maxLen := by
  obtain ⟨fuel, hf⟩ := h
  rcases open_strings Try.underlying25 Try.underlying9 (by kernel_rfl) hf with ⟨hcs, _⟩ | ⟨x, l, c, zs, hcs, _, hl, hm, hz, _, hcell, _⟩
  · simp [Value.cells] at hcs
    obtain ⟨rfl, rfl, rfl⟩ := hcs
    exact ⟨[], rfl, Or.inl rfl, Nat.zero_le _⟩
  · simp [Value.cells] at hcs
    obtain ⟨rfl, rfl, rfl⟩ := hcs
    have hzc : zs.length = cap := by simpa using hz
    refine ⟨zs.take len, by simp; omega, ?_, by omega⟩
    by_cases h0 : len = 0
    · subst h0; exact Or.inl (by simp)
    · obtain ⟨b, off, spot⟩ := x
      have hspot : spot = none := by simpa [Addr.add] using World.cell?_spot (hcell 0 (by omega))
      subst hspot
      refine Or.inr ⟨b, off, rfl, fun j hj => ?_⟩
      have hj' : j < len := by simp at hj; omega
      have := hcell j (by omega)
      rw [Go.WideShapes.add_plain] at this
      rw [this]
      simp [List.getD, hj']
end Go.Proofs.Qxb6605713a
namespace Go.Proofs.Qxb6605713a.fnHooksExactTable
open Go.ChangeShapes Go.WideShapes Go.ChangeAt Go.RowKit
open Go.ChangeMaps (open_string shut_string)

set_option maxRecDepth 100000 in
theorem lifted (os : Os) (started : os.Started) (H : Type) (enc : TypeId × Value → H) :
    ReturnsInHanded {} Try.checked os 4 .any (Rows.fnHooksExactTableSpec.pre6 enc Try.prog Try.f4 Rows.fnHooksExactTableRow.domain false) (Rows.fnHooksExactTableSpec.post enc Try.prog Try.f4 false true false false) := by
  refine returnsInHanded_of_change (C := Try.checked) own started (by kernel_rfl) Try.func4
    (ChangeSpec.witness6 (enc := enc) (C := Try.checked) false ⟨#[], #[.string ByteArray.empty, .string ByteArray.empty, .string ByteArray.empty, .slice none 0 0, .slice none 0 0, .bool false, .pointer none, .pointer none], []⟩ 8 (by kernel_rfl) (by kernel_rfl) (by kernel_rfl) (by kernel_rfl)) ?_
  intro W base args ds gs before hval0 hW hcnd _
  have hval : ∀ (j : Nat) t v, Try.f4.params[j]? = some t → args[j]? = some v → Value.okWide Try.prog W .any base t v := hval0
  have hW' := hW
  obtain ⟨p, q, hA0, hV, rfl, hfz, hnd⟩ := hW
  have hA : DataW.TrodAll enc Try.prog W 0 (fun _ => true) true Try.f4.params.toList args.toList ds p := hA0
  rw [Try.params4] at hA hval
  obtain ⟨v0, vs0, d0, ds0, p0, q0, hargs, rfl, rfl, h0, r0⟩ := trodAll_cons hA
  obtain ⟨v1, vs1, d1, ds1, p1, q1, rfl, rfl, rfl, h1, r1⟩ := trodAll_cons r0
  obtain ⟨v2, vs2, d2, ds2, p2, q2, rfl, rfl, rfl, h2, r2⟩ := trodAll_cons r1
  obtain ⟨v3, vs3, d3, ds3, p3, q3, rfl, rfl, rfl, h3, r3⟩ := trodAll_cons r2
  obtain ⟨v4, vs4, d4, ds4, p4, q4, rfl, rfl, rfl, h4, r4⟩ := trodAll_cons r3
  obtain ⟨v5, vs5, d5, ds5, p5, q5, rfl, rfl, rfl, h5, r5⟩ := trodAll_cons r4
  obtain ⟨v6, vs6, d6, ds6, p6, q6, rfl, rfl, rfl, h6, r6⟩ := trodAll_cons r5
  obtain ⟨v7, vs7, d7, ds7, p7, q7, rfl, rfl, rfl, h7, r7⟩ := trodAll_cons r6
  obtain ⟨rfl, rfl, rfl⟩ := trodAll_nil r7
  obtain rfl : args = #[v0, v1, v2, v3, v4, v5, v6, v7] := by cases args; simp_all
  obtain ⟨rfl, rfl⟩ := trodVars_none hV
  obtain ⟨a0, rfl, rfl, rfl, w0⟩ := open_string Try.underlying9 (hval 0 9 v0 rfl rfl) h0
  obtain ⟨a1, rfl, rfl, rfl, w1⟩ := open_string Try.underlying9 (hval 1 9 v1 rfl rfl) h1
  obtain ⟨a2, rfl, rfl, rfl, w2⟩ := open_string Try.underlying9 (hval 2 9 v2 rfl rfl) h2
  obtain ⟨a3, len3, cap3, rfl⟩ := okWide_slice Try.underlying25 (hval 3 25 v3 rfl rfl)
  have lt3 : ∀ x ∈ p3, x.block < W.heap.size := by obtain ⟨m, hm⟩ := h3; exact DataW.trod_lt m _ _ _ hm
  obtain ⟨s3, rfl, t3, n3⟩ := view h3
  obtain ⟨a4, len4, cap4, rfl⟩ := okWide_slice Try.underlying25 (hval 4 25 v4 rfl rfl)
  have lt4 : ∀ x ∈ p4, x.block < W.heap.size := by obtain ⟨m, hm⟩ := h4; exact DataW.trod_lt m _ _ _ hm
  obtain ⟨s4, rfl, t4, n4⟩ := view h4
  obtain ⟨a5, rfl, rfl, rfl⟩ := open_bool Try.underlying4 (hval 5 4 v5 rfl rfl) h5
  have hv6 := hval 6 26 v6 rfl rfl
  obtain ⟨a6, rfl⟩ := okWide_pointer Try.underlying26 hv6
  have lt6 : ∀ x ∈ p6, x.block < W.heap.size := by obtain ⟨m, hm⟩ := h6; exact DataW.trod_lt m _ _ _ hm
  have i6 : Hid (IntAt W a6) := by
    rcases open_ptr_int Try.underlying26 Try.underlying2 (by kernel_rfl) hv6 h6 with ⟨hv, _⟩ | ⟨b, off, n, hv, _, _, hc, _⟩
    · cases hv
      intro a ha
      cases ha
    · cases hv
      intro a ha
      cases ha
      exact ⟨n, hc⟩
  have hv7 := hval 7 26 v7 rfl rfl
  obtain ⟨a7, rfl⟩ := okWide_pointer Try.underlying26 hv7
  have lt7 : ∀ x ∈ p7, x.block < W.heap.size := by obtain ⟨m, hm⟩ := h7; exact DataW.trod_lt m _ _ _ hm
  have i7 : Hid (IntAt W a7) := by
    rcases open_ptr_int Try.underlying26 Try.underlying2 (by kernel_rfl) hv7 h7 with ⟨hv, _⟩ | ⟨b, off, n, hv, _, _, hc, _⟩
    · cases hv
      intro a ha
      cases ha
    · cases hv
      intro a ha
      cases ha
      exact ⟨n, hc⟩
  clear hA0 hval0
  refine (walk4 a0 a1 a2 a3 s3 cap3 a4 s4 cap4 a5 a6 a7 W t3 n3 t4 n4 i6 i7).mono fun e W' ⟨he, bel⟩ => ?_
  subst he
  exact ⟨_, rfl, _, _, _, [], _, [], hW', trodAll_mk1 (shut_bool Try.underlying4 _), (trodAll_cons_mk (shut_string Try.underlying9 w0) (trodAll_cons_mk (shut_string Try.underlying9 w1) (trodAll_cons_mk (shut_string Try.underlying9 w2) (trodAll_cons_mk (Below.trod laidOut (by kernel_rfl) (of_decide_eq_true (by kernel_rfl)) h3 bel lt3) (trodAll_cons_mk (Below.trod laidOut (by kernel_rfl) (of_decide_eq_true (by kernel_rfl)) h4 bel lt4) (trodAll_cons_mk (shut_bool Try.underlying4 _) (trodAll_cons_mk (Below.trod laidOut (by kernel_rfl) (of_decide_eq_true (by kernel_rfl)) h6 bel lt6) (trodAll_cons_mk (Below.trod laidOut (by kernel_rfl) (of_decide_eq_true (by kernel_rfl)) h7 bel lt7) trodAll_mk0)))))))), rfl, bel.frame _, fun h => by cases h⟩

theorem over : Rows.fnHooksExactTableRow.holds Try.pinned (OpenSpec.ofChange Rows.fnHooksExactTableSpec) :=
  OpenClaim.holds_of_wide 4 Try.f4 rfl rfl rfl rfl rfl rfl rfl ⟨rfl, rfl, rfl, rfl, rfl⟩ rfl rfl rfl rfl rfl (by kernel_rfl) Try.func4 (by kernel_rfl)
    (of_decide_eq_true (by kernel_rfl)) (by unfold Func.isWrapper; first | (rw [if_pos (by decide +kernel)]; kernel_rfl) | (rw [if_neg (by decide +kernel)]; exact ⟨rfl, rfl⟩))
    (fun os started H enc _ => lifted os started H enc)

/-- THE STATEMENT. -/
theorem proved : Rows.FnHooksExactTableSaid :=
  over
end Go.Proofs.Qxb6605713a.fnHooksExactTable
