/-
  THE SEAT's PLAIN GROUND: a slice of strings, of bools, of numbers as a walk reads it; and the contracts of the functions that only bound sizes (zzAddStrings, the zzBytes_ functions): each returns some number or bool and leaves the world as it was.
-/
import Derived.Test.Qxb6613624aProg
import Derived.WalkKit
import Derived.WalkLawsBesides
namespace Go.Proofs.Qxb6613624a
open Go.RowKit

/-- A slice of strings at address a: nothing to read, or a row of cells. -/
def Strs (w : World) (a : Option Addr) (ss : List ByteArray) : Prop :=
  ss = [] ∨ ∃ b off, a = some ⟨b, off, none⟩ ∧ ∀ j, j < ss.length → w.cell? ⟨b, off + j, none⟩ = some (.string (ss.getD j ByteArray.empty))
theorem Strs.fst {w : World} {a : Option Addr} {ss : List ByteArray} (h : Strs w a ss) {k : Nat} (hk : k < ss.length) :
    ∃ b off, a = some ⟨b, off, none⟩ ∧ ∃ s, w.cell? ⟨b, off + k, none⟩ = some (.string s) := by
  rcases h with h | ⟨b, off, h1, h2⟩
  · rw [h] at hk; simp at hk
  · exact ⟨b, off, h1, _, h2 k hk⟩
theorem Strs.at {w : World} {a : Option Addr} {ss : List ByteArray} (h : Strs w a ss) {k : Nat} (hk : k < ss.length) :
    ∃ b off, a = some ⟨b, off, none⟩ ∧ ∀ j, j < ss.length → w.cell? ⟨b, off + j, none⟩ = some (.string (ss.getD j ByteArray.empty)) := by
  rcases h with h | h
  · rw [h] at hk; simp at hk
  · exact h
/-- It stays where the world below its block stays. -/
theorem Strs.below {w w' : World} {a : Option Addr} {ss : List ByteArray} (h : Strs w a ss) (hb : Below w.heap.size w w') : Strs w' a ss := by
  rcases h with h | ⟨b, off, h1, h2⟩
  · exact Or.inl h
  · refine Or.inr ⟨b, off, h1, fun j hj => ?_⟩
    have hc := h2 j hj
    rw [hb.cell (World.block_lt_of_cell? w _ hc)]
    exact hc

/-- Some number comes back. -/
def SomeInt (e : Ending) : Prop := ∃ r : Int, e = .returned (.int .i64 r)
/-- Some bool comes back. -/
def SomeBool (e : Ending) : Prop := ∃ r : Bool, e = .returned (.bool r)

set_option maxHeartbeats 400000 in
theorem addStrings (t : Int) (a : Option Addr) (ss : List ByteArray) (cap : Nat) (w : World) (hs : Strs w a ss) (hn : ss.length ≤ maxLen) :
    Calls Try.prog 9 #[.int .i64 t, .slice a ss.length cap] w fun e w' => SomeInt e ∧ w' = w := by
  unfold maxLen at hn
  go_enter Try.func9, Try.ntmps9
  go_wp2
  go_loop [0, 5] (fun t i => ∃ k : Nat, ∃ z : Int, k ≤ ss.length ∧ i = .int .i64 k ∧ t = .int .i64 z) (fun _ i => ss.length - (intOf i).toNat)
  case atStart => exact ⟨0, t, Nat.zero_le _, rfl, rfl⟩
  case round =>
    obtain ⟨k, z, hk, rfl, rfl⟩ := hrel
    by_cases hlt : k < ss.length
    · obtain ⟨b, off, rfl, s, hck⟩ := hs.fst hlt
      clear hs
      go_wp2
      all_goals try (go_ret; exact ⟨⟨_, rfl⟩, rfl⟩)
      go_round
      case rel => exact ⟨k + 1, _, by omega, by go_num, rfl⟩
      case measure => simp [intOf]; omega
    · go_wp2
      go_ret
      exact ⟨⟨_, rfl⟩, rfl⟩

set_option maxHeartbeats 1000000 in
theorem bytes8 (l : ByteArray) (a1 : Option Addr) (s1 : List ByteArray) (c1 : Nat) (a2 : Option Addr) (s2 : List ByteArray) (c2 : Nat) (w : World) (h1 : Strs w a1 s1) (n1 : s1.length ≤ maxLen) (h2 : Strs w a2 s2) (n2 : s2.length ≤ maxLen) :
    Calls Try.prog 8 #[.string l, .slice a1 s1.length c1, .slice a2 s2.length c2] w fun e w' => SomeBool e ∧ w' = w := by
  unfold maxLen at n1 n2
  go_enter Try.func8, Try.ntmps8
  go_wp2
  all_goals try (go_ret; exact ⟨⟨_, rfl⟩, rfl⟩)
  go_loop [7, 8] (fun t i => ∃ k : Nat, ∃ z : Int, k ≤ s1.length ∧ i = .int .i64 k ∧ t = .int .i64 z) (fun _ i => s1.length - (intOf i).toNat)
  case atStart => exact ⟨0, _, Nat.zero_le _, rfl, rfl⟩
  case round =>
    obtain ⟨k, z, hk, rfl, rfl⟩ := hrel
    by_cases hlt : k < s1.length
    · obtain ⟨b, off, rfl, s, hck⟩ := h1.fst hlt
      clear h1 h2
      go_wp2
      all_goals try (go_ret; exact ⟨⟨_, rfl⟩, rfl⟩)
      go_round
      case rel => exact ⟨k + 1, _, by omega, by go_num, rfl⟩
      case measure => simp [intOf]; omega
    · go_wp2
      all_goals try (go_ret; exact ⟨⟨_, rfl⟩, rfl⟩)
      go_loop [7, 9] (fun t i => ∃ k : Nat, ∃ z : Int, k ≤ s2.length ∧ i = .int .i64 k ∧ t = .int .i64 z) (fun _ i => s2.length - (intOf i).toNat)
      case atStart => exact ⟨0, _, Nat.zero_le _, rfl, rfl⟩
      case round =>
        obtain ⟨k, z, hk, rfl, rfl⟩ := hrel
        by_cases hlt : k < s2.length
        · obtain ⟨b, off, rfl, s, hck⟩ := h2.fst hlt
          clear h1 h2
          go_wp2
          all_goals try (go_ret; exact ⟨⟨_, rfl⟩, rfl⟩)
          go_round
          case rel => exact ⟨k + 1, _, by omega, by go_num, rfl⟩
          case measure => simp [intOf]; omega
        · go_wp2
          all_goals try (go_ret; exact ⟨⟨_, rfl⟩, rfl⟩)

set_option maxHeartbeats 1000000 in
theorem bytes12 (a1 : Option Addr) (s1 : List ByteArray) (c1 : Nat) (a2 : Option Addr) (s2 : List ByteArray) (c2 : Nat) (a3 : Option Addr) (s3 : List ByteArray) (c3 : Nat) (a4 : Option Addr) (s4 : List ByteArray) (c4 : Nat) (w : World) (h1 : Strs w a1 s1) (n1 : s1.length ≤ maxLen) (h2 : Strs w a2 s2) (n2 : s2.length ≤ maxLen) (h3 : Strs w a3 s3) (n3 : s3.length ≤ maxLen) (h4 : Strs w a4 s4) (n4 : s4.length ≤ maxLen) :
    Calls Try.prog 12 #[.slice a1 s1.length c1, .slice a2 s2.length c2, .slice a3 s3.length c3, .slice a4 s4.length c4] w fun e w' => SomeBool e ∧ w' = w := by
  unfold maxLen at n1 n2 n3 n4
  go_enter Try.func12, Try.ntmps12
  go_wp2
  all_goals try (go_ret; exact ⟨⟨_, rfl⟩, rfl⟩)
  go_loop [9, 10] (fun t i => ∃ k : Nat, ∃ z : Int, k ≤ s1.length ∧ i = .int .i64 k ∧ t = .int .i64 z) (fun _ i => s1.length - (intOf i).toNat)
  case atStart => exact ⟨0, _, Nat.zero_le _, rfl, rfl⟩
  case round =>
    obtain ⟨k, z, hk, rfl, rfl⟩ := hrel
    by_cases hlt : k < s1.length
    · obtain ⟨b, off, rfl, s, hck⟩ := h1.fst hlt
      clear h1 h2 h3 h4
      go_wp2
      all_goals try (go_ret; exact ⟨⟨_, rfl⟩, rfl⟩)
      go_round
      case rel => exact ⟨k + 1, _, by omega, by go_num, rfl⟩
      case measure => simp [intOf]; omega
    · go_wp2
      all_goals try (go_ret; exact ⟨⟨_, rfl⟩, rfl⟩)
      go_loop [9, 11] (fun t i => ∃ k : Nat, ∃ z : Int, k ≤ s2.length ∧ i = .int .i64 k ∧ t = .int .i64 z) (fun _ i => s2.length - (intOf i).toNat)
      case atStart => exact ⟨0, _, Nat.zero_le _, rfl, rfl⟩
      case round =>
        obtain ⟨k, z, hk, rfl, rfl⟩ := hrel
        by_cases hlt : k < s2.length
        · obtain ⟨b, off, rfl, s, hck⟩ := h2.fst hlt
          clear h1 h2 h3 h4
          go_wp2
          all_goals try (go_ret; exact ⟨⟨_, rfl⟩, rfl⟩)
          go_round
          case rel => exact ⟨k + 1, _, by omega, by go_num, rfl⟩
          case measure => simp [intOf]; omega
        · go_wp2
          all_goals try (go_ret; exact ⟨⟨_, rfl⟩, rfl⟩)
          go_loop [9, 12] (fun t i => ∃ k : Nat, ∃ z : Int, k ≤ s3.length ∧ i = .int .i64 k ∧ t = .int .i64 z) (fun _ i => s3.length - (intOf i).toNat)
          case atStart => exact ⟨0, _, Nat.zero_le _, rfl, rfl⟩
          case round =>
            obtain ⟨k, z, hk, rfl, rfl⟩ := hrel
            by_cases hlt : k < s3.length
            · obtain ⟨b, off, rfl, s, hck⟩ := h3.fst hlt
              clear h1 h2 h3 h4
              go_wp2
              all_goals try (go_ret; exact ⟨⟨_, rfl⟩, rfl⟩)
              go_round
              case rel => exact ⟨k + 1, _, by omega, by go_num, rfl⟩
              case measure => simp [intOf]; omega
            · go_wp2
              all_goals try (go_ret; exact ⟨⟨_, rfl⟩, rfl⟩)
              go_loop [9, 13] (fun t i => ∃ k : Nat, ∃ z : Int, k ≤ s4.length ∧ i = .int .i64 k ∧ t = .int .i64 z) (fun _ i => s4.length - (intOf i).toNat)
              case atStart => exact ⟨0, _, Nat.zero_le _, rfl, rfl⟩
              case round =>
                obtain ⟨k, z, hk, rfl, rfl⟩ := hrel
                by_cases hlt : k < s4.length
                · obtain ⟨b, off, rfl, s, hck⟩ := h4.fst hlt
                  clear h1 h2 h3 h4
                  go_wp2
                  all_goals try (go_ret; exact ⟨⟨_, rfl⟩, rfl⟩)
                  go_round
                  case rel => exact ⟨k + 1, _, by omega, by go_num, rfl⟩
                  case measure => simp [intOf]; omega
                · go_wp2
                  all_goals try (go_ret; exact ⟨⟨_, rfl⟩, rfl⟩)

set_option maxHeartbeats 1000000 in
theorem bytes18 (a1 : Option Addr) (s1 : List ByteArray) (c1 : Nat) (a2 : Option Addr) (s2 : List ByteArray) (c2 : Nat) (a3 : Option Addr) (s3 : List ByteArray) (c3 : Nat) (di : Int) (a4 a5 : Option Addr) (l4 c4 l5 c5 : Nat) (w : World) (h1 : Strs w a1 s1) (n1 : s1.length ≤ maxLen) (h2 : Strs w a2 s2) (n2 : s2.length ≤ maxLen) (h3 : Strs w a3 s3) (n3 : s3.length ≤ maxLen) :
    Calls Try.prog 18 #[.slice a1 s1.length c1, .slice a2 s2.length c2, .slice a3 s3.length c3, .int .i64 di, .slice a4 l4 c4, .slice a5 l5 c5] w fun e w' => SomeBool e ∧ w' = w := by
  unfold maxLen at n1 n2 n3
  go_enter Try.func18, Try.ntmps18
  go_wp2
  all_goals try (go_ret; exact ⟨⟨_, rfl⟩, rfl⟩)
  go_loop [13, 14] (fun t i => ∃ k : Nat, ∃ z : Int, k ≤ s1.length ∧ i = .int .i64 k ∧ t = .int .i64 z) (fun _ i => s1.length - (intOf i).toNat)
  case atStart => exact ⟨0, _, Nat.zero_le _, rfl, rfl⟩
  case round =>
    obtain ⟨k, z, hk, rfl, rfl⟩ := hrel
    by_cases hlt : k < s1.length
    · obtain ⟨b, off, rfl, s, hck⟩ := h1.fst hlt
      clear h1 h2 h3
      go_wp2
      all_goals try (go_ret; exact ⟨⟨_, rfl⟩, rfl⟩)
      go_round
      case rel => exact ⟨k + 1, _, by omega, by go_num, rfl⟩
      case measure => simp [intOf]; omega
    · go_wp2
      all_goals try (go_ret; exact ⟨⟨_, rfl⟩, rfl⟩)
      go_loop [13, 15] (fun t i => ∃ k : Nat, ∃ z : Int, k ≤ s2.length ∧ i = .int .i64 k ∧ t = .int .i64 z) (fun _ i => s2.length - (intOf i).toNat)
      case atStart => exact ⟨0, _, Nat.zero_le _, rfl, rfl⟩
      case round =>
        obtain ⟨k, z, hk, rfl, rfl⟩ := hrel
        by_cases hlt : k < s2.length
        · obtain ⟨b, off, rfl, s, hck⟩ := h2.fst hlt
          clear h1 h2 h3
          go_wp2
          all_goals try (go_ret; exact ⟨⟨_, rfl⟩, rfl⟩)
          go_round
          case rel => exact ⟨k + 1, _, by omega, by go_num, rfl⟩
          case measure => simp [intOf]; omega
        · go_wp2
          all_goals try (go_ret; exact ⟨⟨_, rfl⟩, rfl⟩)
          go_loop [13, 16] (fun t i => ∃ k : Nat, ∃ z : Int, k ≤ s3.length ∧ i = .int .i64 k ∧ t = .int .i64 z) (fun _ i => s3.length - (intOf i).toNat)
          case atStart => exact ⟨0, _, Nat.zero_le _, rfl, rfl⟩
          case round =>
            obtain ⟨k, z, hk, rfl, rfl⟩ := hrel
            by_cases hlt : k < s3.length
            · obtain ⟨b, off, rfl, s, hck⟩ := h3.fst hlt
              clear h1 h2 h3
              go_wp2
              all_goals try (go_ret; exact ⟨⟨_, rfl⟩, rfl⟩)
              go_round
              case rel => exact ⟨k + 1, _, by omega, by go_num, rfl⟩
              case measure => simp [intOf]; omega
            · go_wp2
              all_goals try (go_ret; exact ⟨⟨_, rfl⟩, rfl⟩)

set_option maxHeartbeats 1000000 in
theorem bytes26 (a1 : Option Addr) (s1 : List ByteArray) (c1 : Nat) (a2 : Option Addr) (s2 : List ByteArray) (c2 : Nat) (a3 : Option Addr) (s3 : List ByteArray) (c3 : Nat) (di : Int) (a4 a5 : Option Addr) (l4 c4 l5 c5 : Nat) (w : World) (h1 : Strs w a1 s1) (n1 : s1.length ≤ maxLen) (h2 : Strs w a2 s2) (n2 : s2.length ≤ maxLen) (h3 : Strs w a3 s3) (n3 : s3.length ≤ maxLen) :
    Calls Try.prog 26 #[.slice a1 s1.length c1, .slice a2 s2.length c2, .slice a3 s3.length c3, .int .i64 di, .slice a4 l4 c4, .slice a5 l5 c5] w fun e w' => SomeBool e ∧ w' = w := by
  unfold maxLen at n1 n2 n3
  go_enter Try.func26, Try.ntmps26
  go_wp2
  all_goals try (go_ret; exact ⟨⟨_, rfl⟩, rfl⟩)
  go_loop [13, 14] (fun t i => ∃ k : Nat, ∃ z : Int, k ≤ s1.length ∧ i = .int .i64 k ∧ t = .int .i64 z) (fun _ i => s1.length - (intOf i).toNat)
  case atStart => exact ⟨0, _, Nat.zero_le _, rfl, rfl⟩
  case round =>
    obtain ⟨k, z, hk, rfl, rfl⟩ := hrel
    by_cases hlt : k < s1.length
    · obtain ⟨b, off, rfl, s, hck⟩ := h1.fst hlt
      clear h1 h2 h3
      go_wp2
      all_goals try (go_ret; exact ⟨⟨_, rfl⟩, rfl⟩)
      go_round
      case rel => exact ⟨k + 1, _, by omega, by go_num, rfl⟩
      case measure => simp [intOf]; omega
    · go_wp2
      all_goals try (go_ret; exact ⟨⟨_, rfl⟩, rfl⟩)
      go_loop [13, 15] (fun t i => ∃ k : Nat, ∃ z : Int, k ≤ s2.length ∧ i = .int .i64 k ∧ t = .int .i64 z) (fun _ i => s2.length - (intOf i).toNat)
      case atStart => exact ⟨0, _, Nat.zero_le _, rfl, rfl⟩
      case round =>
        obtain ⟨k, z, hk, rfl, rfl⟩ := hrel
        by_cases hlt : k < s2.length
        · obtain ⟨b, off, rfl, s, hck⟩ := h2.fst hlt
          clear h1 h2 h3
          go_wp2
          all_goals try (go_ret; exact ⟨⟨_, rfl⟩, rfl⟩)
          go_round
          case rel => exact ⟨k + 1, _, by omega, by go_num, rfl⟩
          case measure => simp [intOf]; omega
        · go_wp2
          all_goals try (go_ret; exact ⟨⟨_, rfl⟩, rfl⟩)
          go_loop [13, 16] (fun t i => ∃ k : Nat, ∃ z : Int, k ≤ s3.length ∧ i = .int .i64 k ∧ t = .int .i64 z) (fun _ i => s3.length - (intOf i).toNat)
          case atStart => exact ⟨0, _, Nat.zero_le _, rfl, rfl⟩
          case round =>
            obtain ⟨k, z, hk, rfl, rfl⟩ := hrel
            by_cases hlt : k < s3.length
            · obtain ⟨b, off, rfl, s, hck⟩ := h3.fst hlt
              clear h1 h2 h3
              go_wp2
              all_goals try (go_ret; exact ⟨⟨_, rfl⟩, rfl⟩)
              go_round
              case rel => exact ⟨k + 1, _, by omega, by go_num, rfl⟩
              case measure => simp [intOf]; omega
            · go_wp2
              all_goals try (go_ret; exact ⟨⟨_, rfl⟩, rfl⟩)

end Go.Proofs.Qxb6613624a
