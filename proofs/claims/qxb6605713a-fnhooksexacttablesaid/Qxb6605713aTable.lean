/-
  THE CONTRACTS FOR FnHooksExactTable: its zzBytes_ function, cloneStrings, sleepHandler, hookIs.
-/
import Derived.Test.Qxb6605713aHooks
import Derived.LaidEql
import Derived.Deep.Light
import Derived.WalkSpells
namespace Go.Proofs.Qxb6605713a
open Go.RowKit
/-- A slice of strings at address a: nothing to read, or a row of cells. -/
def Strs (w : World) (a : Option Addr) (ss : List ByteArray) : Prop :=
  ss = [] ∨ ∃ b off, a = some ⟨b, off, none⟩ ∧ ∀ j, j < ss.length → w.cell? ⟨b, off + j, none⟩ = some (.string (ss.getD j ByteArray.empty))
theorem Strs.fst {w : World} {a : Option Addr} {ss : List ByteArray} (h : Strs w a ss) {k : Nat} (hk : k < ss.length) :
    ∃ b off, a = some ⟨b, off, none⟩ ∧ ∃ s, w.cell? ⟨b, off + k, none⟩ = some (.string s) := by
  rcases h with h | ⟨b, off, h1, h2⟩
  · rw [h] at hk; simp at hk
  · exact ⟨b, off, h1, _, h2 k hk⟩
theorem Strs.below {w w' : World} {a : Option Addr} {ss : List ByteArray} (h : Strs w a ss) (hb : Below w.heap.size w w') : Strs w' a ss := by
  rcases h with h | ⟨b, off, h1, h2⟩
  · exact Or.inl h
  · exact Or.inr ⟨b, off, h1, fun j hj => cell_below (h2 j hj) hb⟩
/-- Some bool comes back. -/
def SomeBool (e : Ending) : Prop := ∃ r : Bool, e = .returned (.bool r)

set_option maxRecDepth 100000 in
set_option maxHeartbeats 2000000 in
theorem bytes9 (l0 l1 l2 : ByteArray) (a1 : Option Addr) (s1 : List ByteArray) (c1 : Nat) (a2 : Option Addr) (s2 : List ByteArray) (c2 : Nat) (b : Bool) (p6 p7 : Option Addr) (w : World) (h1 : Strs w a1 s1) (n1 : s1.length ≤ maxLen) (h2 : Strs w a2 s2) (n2 : s2.length ≤ maxLen) :
    Calls Try.prog 9 #[.string l0, .string l1, .string l2, .slice a1 s1.length c1, .slice a2 s2.length c2, .bool b, .pointer p6, .pointer p7] w fun e w' => SomeBool e ∧ w' = w := by
  unfold maxLen at n1 n2
  go_enter Try.func9, Try.ntmps9
  go_wp2
  all_goals try (go_ret; exact ⟨⟨_, rfl⟩, rfl⟩)
  go_loop [17, 18] (fun t i => ∃ k : Nat, ∃ z : Int, k ≤ s1.length ∧ i = .int .i64 k ∧ t = .int .i64 z) (fun _ i => s1.length - (intOf i).toNat)
  case atStart => exact ⟨0, _, Nat.zero_le _, rfl, rfl⟩
  case round =>
    obtain ⟨k, z, hk, rfl, rfl⟩ := hrel
    by_cases hlt : k < s1.length
    · obtain ⟨b, off, rfl, s, hck⟩ := h1.fst hlt
      clear h1 h2
      go_wp2
      all_goals try (go_ret; exact ⟨⟨_, rfl⟩, rfl⟩)
      go_round
      case rel => exact ⟨k + 1, _, by omega, by go_num, rfl⟩
      case measure => simp [intOf]; omega
    · go_wp2
      all_goals try (go_ret; exact ⟨⟨_, rfl⟩, rfl⟩)
      go_loop [17, 19] (fun t i => ∃ k : Nat, ∃ z : Int, k ≤ s2.length ∧ i = .int .i64 k ∧ t = .int .i64 z) (fun _ i => s2.length - (intOf i).toNat)
      case atStart => exact ⟨0, _, Nat.zero_le _, rfl, rfl⟩
      case round =>
        obtain ⟨k, z, hk, rfl, rfl⟩ := hrel
        by_cases hlt : k < s2.length
        · obtain ⟨b, off, rfl, s, hck⟩ := h2.fst hlt
          clear h1 h2
          go_wp2
          all_goals try (go_ret; exact ⟨⟨_, rfl⟩, rfl⟩)
          go_round
          case rel => exact ⟨k + 1, _, by omega, by go_num, rfl⟩
          case measure => simp [intOf]; omega
        · go_wp2
          all_goals try (go_ret; exact ⟨⟨_, rfl⟩, rfl⟩)

theorem eql25_nil (w : World) (a : Option Addr) (n c : Nat) : (binOp .eql 25 (.slice a n c) (.slice none 0 0)).run Try.prog w = .ok (.bool a.isNone) w := by
  exact Lib.run_eql_slice_nil w 25 9 a n c 0 0 Try.underlying25
/-- Some slice comes back. -/
def SomeSlice (e : Ending) : Prop := ∃ a n c, e = .returned (.slice a n c)
set_option maxRecDepth 100000 in
set_option maxHeartbeats 1000000 in
theorem clone_any (a : Option Addr) (ss : List ByteArray) (c : Nat) (w : World) (hs : Strs w a ss) (hn : ss.length ≤ 65536) (hc : a = none → ss = []) :
    Calls Try.prog 10 #[.slice a ss.length c] w fun e w' => SomeSlice e ∧ Below w.heap.size w w' := by
  have hnil := eql25_nil
  obtain ⟨i0, hi, hz0, hz1, hz2⟩ := info_parts Try.info9
  cases a with
  | none =>
    go_enter Try.func10, Try.ntmps10
    go_wp2
    go_ret
    exact ⟨⟨_, _, _, rfl⟩, Below.refl _ _⟩
  | some ad =>
    clear hc
    go_enter Try.func10, Try.ntmps10
    go_wp2_with (at_make; refine wpList_make_full _ rfl _ _ 25 rfl w.heap.size 9 i0 (.string ⟨#[]⟩) 1 Try.underlying25 hi hz0 hz1 .i64 .i64 _ _ ss.length rfl rfl rfl rfl (by rw [hz2]; omega) (by unfold maxLen; omega) (Nat.le_refl _) ?_; intro w1 hrow hgrow)
    go_loopw [4] (fun i wr => ∃ k : Nat, k ≤ ss.length ∧ i = .int .i64 k ∧ (∃ ys, wr.ownsRow w.heap.size 9 1 (.slice (some ⟨w.heap.size, 0, none⟩) ss.length ss.length) ss.length ys) ∧ Below w.heap.size w wr) (fun i _ => ss.length - (intOf i).toNat)
    case atStart => exact ⟨0, Nat.zero_le _, rfl, ⟨_, hrow⟩, (Below.refl _ _).grown hgrow (Nat.le_refl _) (fun j hj => by cases hj)⟩
    case round =>
      obtain ⟨k, hk, rfl, ⟨ys, hown⟩, hb⟩ := hrel
      clear hrow hgrow
      by_cases hlt : k < ss.length
      · obtain ⟨b, off, hab, s, hck⟩ := hs.fst hlt
        have hck' := cell_below hck hb
        have hyl : k < ys.length := by have := hown.1; omega
        have cell : wr.cell? ⟨w.heap.size, k, none⟩ = some ys[k] := by
          rw [hown.cellAt k (by omega), List.getElem?_eq_getElem hyl]
        have frz := hown.frozenAt k
        have st := (hown.stored k (.string s)).1
        cases hab
        clear hs hown hck
        go_wp2
        go_light
        exact ⟨⟨k + 1, by omega, by go_num, ⟨_, st⟩, hb.setCell (Nat.le_refl _) _⟩, by simp [intOf]; omega⟩
      · go_wp2
        go_ret
        exact ⟨⟨_, _, _, rfl⟩, hb⟩

theorem sleep_none (w : World) : Calls Try.prog 11 #[.pointer none] w fun e w' => e = .returned (.pointer none) ∧ w' = w := by
  go_enter Try.func11, Try.ntmps11
  go_wp2
  go_ret
  exact ⟨rfl, rfl⟩
theorem sleep_some (a : Addr) (x : Int) (w : World) (h : w.cell? a = some (.int .i64 x)) : Calls Try.prog 11 #[.pointer (some a)] w fun e w' => (∃ hh, e = .returned (.pointer (some ⟨hh, 0, none⟩))) ∧ Below w.heap.size w w' := by
  go_enter Try.func11, Try.ntmps11
  go_wp2
  go_ret
  exact ⟨⟨_, rfl⟩, ((Below.refl _ _).alloc (Nat.le_refl _) _).alloc (by simp) _⟩

theorem eq29_same (d : Nat) (a : Addr) (w : World) : (Op.equalIn (d + 1) 29 (.pointer (some a)) (.pointer (some a))).run Try.prog w = .ok true w := by
  simp [Op.equalIn, run_underlying Try.underlying29, Try.sizeOf61, run_sameAddr_same]
theorem eql29_same (a : Addr) (w : World) : (binOp .eql 29 (.pointer (some a)) (.pointer (some a))).run Try.prog w = .ok (.bool true) w := by
  simp only [binOp]
  simp [Op.equal, Op.maxDepth, eq29_same 9999]
theorem hookIs_same (f : ByteArray) (a : Addr) (w : World) : Calls Try.prog 13 #[.agg #[.string f, .pointer (some a)], .string f, .pointer (some a)] w fun e w' => e = .returned (.bool true) ∧ Below w.heap.size w w' := by
  have hpe := eql29_same
  go_enter Try.func13, Try.ntmps13
  go_wp2
  go_ret
  exact ⟨rfl, (Below.refl _ _).alloc (Nat.le_refl _) _⟩
end Go.Proofs.Qxb6605713a
