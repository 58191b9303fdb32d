/-
  zzLevelReads BY ITS CONTRACT (over ZZdefList, (defList).Value, ZZtext): a level that reads as the pairs say answers true.
-/
import Derived.Test.Qxb6613624aZImport
import Derived.Deep.RegionWith
namespace Go.Proofs.Qxb6613624a
open Go.RowKit Go.Maps
theorem assert51 (v : Value) (w : World) : (Instr.typeAssert (.iface 51 v) 76 51 false).run Try.prog w = .ok v w := by kernel_rfl
set_option maxRecDepth 100000 in
theorem defList_any (sc lv g : Nat) (up : Option Addr) (ks : List (List UInt8)) (tx : List UInt8 → ByteArray) (w : World) (h : Level w sc lv g up ks tx) :
    Calls Try.prog 29 #[.pointer (some ⟨sc, 0, none⟩)] w fun e w' => (∃ cap, e = .returned (.slice (some ⟨g, 0, none⟩) ks.length cap)) ∧ w' = w := by
  obtain ⟨cap, hc⟩ := h.defs
  have hv := h.vars
  have hta := assert51
  clear h
  go_enter Try.func29, Try.ntmps29
  go_wp2
  go_ret
  exact ⟨⟨cap, rfl⟩, rfl⟩

theorem cell_older {w : World} {a : Addr} {v : Value} (h : w.cell? a = some v) (o : Obj) : (w.alloc o).cell? a = some v := by
  rw [((Below.refl w.heap.size w).alloc (Nat.le_refl _) o).cell (World.block_lt_of_cell? w a h)]
  exact h
theorem text_any (t : ByteArray) (w : World) : Calls Try.prog 31 #[.agg #[.string t, .slice none 0 0, .bool false]] w fun e w' => e = .returned (.string t) ∧ w' = w.alloc (.cells #[.string t, .slice none 0 0, .bool false] 56) := by
  go_enter Try.func31, Try.ntmps31
  go_wp2
  go_ret
  exact ⟨rfl, rfl⟩

set_option maxRecDepth 100000 in
theorem value_any (g n cap i : Nat) (t : ByteArray) (w : World) (hi : i < n) (h1 : w.cell? ⟨g, i * 4 + 1, none⟩ = some (.string t)) (h2 : w.cell? ⟨g, i * 4 + 1 + 1, none⟩ = some (.slice none 0 0)) (h3 : w.cell? ⟨g, i * 4 + 1 + 2, none⟩ = some (.bool false)) :
    Calls Try.prog 32 #[.slice (some ⟨g, 0, none⟩) n cap, .int .i64 i] w fun e w' => e = .returned (.agg #[.string t, .slice none 0 0, .bool false]) ∧ w' = w.alloc (.cells #[.string t, .slice none 0 0, .bool false] 56) := by
  have k1 := fun o => cell_older h1 o
  have k2 := fun o => cell_older h2 o
  have k3 := fun o => cell_older h3 o
  clear h1 h2 h3
  go_enter Try.func32, Try.ntmps32
  go_wp2
  exact bodyPost_ret (v := .agg #[.string t, .slice none 0 0, .bool false]) (by simp [results, Try.results32, go_sem]) rfl ⟨rfl, rfl⟩

theorem below_two {w wr : World} (hb : Below w.heap.size w wr) (o1 o2 : Obj) : Below w.heap.size w ((wr.alloc o1).alloc o2).drew :=
  ((hb.alloc hb.size _).alloc (by have := hb.size; simp; omega) _).drew

/-- What the level is to read as: as many definitions as distinct names; at each name's rank that name, with its value. -/
structure Reads (ss vs : List ByteArray) (ks : List (List UInt8)) (tx : List UInt8 → ByteArray) : Prop where
  len : ks.length = distinctN ss
  rank : ∀ j, j < ss.length → lastB ss j = true → rankN ss (nm ss j) < ks.length ∧ ks.getD (rankN ss (nm ss j)) [] = nm ss j ∧ tx (nm ss j) = vs.getD j ByteArray.empty

set_option maxRecDepth 100000 in
set_option maxHeartbeats 1000000 in
theorem levelReads (sc lv g : Nat) (up : Option Addr) (ks : List (List UInt8)) (tx : List UInt8 → ByteArray) (a1 a2 : Option Addr) (ss vs : List ByteArray) (c1 c2 : Nat) (w : World) (hL : Level w sc lv g up ks tx) (h1 : Strs w a1 ss) (h2 : Strs w a2 vs) (hlen : vs.length = ss.length) (hn : ss.length ≤ 4096) (HR : Hid (Reads ss vs ks tx)) :
    Calls Try.prog 11 #[.pointer (some ⟨sc, 0, none⟩), .slice a1 ss.length c1, .slice a2 ss.length c2] w fun e w' => e = .returned (.bool true) ∧ Below w.heap.size w w' := by
  have hd : ((ks.length : Int) != (distinctN ss : Int)) = false := by rw [HR.out.len]; simp
  go_enter Try.func11, Try.ntmps11
  go_wp2_with fail
  refine (lastFlags a1 ss c1 w h1 hn).mono ?_
  rintro e w1 ⟨rfl, hrow, hb1⟩
  have hF := Flags.of_row hrow
  have hL1 := hL.below hb1
  have h11 := h1.below hb1
  have h21 := h2.below hb1
  clear hrow hL
  go_wp2_with fail
  refine (defList_any sc lv g up ks tx w1 hL1).mono ?_
  rintro e w1' ⟨⟨cap, rfl⟩, rfl⟩
  go_wp2_with fail
  refine (distinct_any _ ss _ _ hF hn).mono ?_
  rintro e w1'' ⟨rfl, rfl⟩
  go_wp2_with fail
  clear h1 h2
  go_loopw [9] (fun i wr => ∃ k : Nat, k ≤ ss.length ∧ i = .int .i64 k ∧ Below w1''.heap.size w1'' wr)
    (fun i _ => ss.length - (intOf i).toNat)
  case atStart => exact ⟨0, Nat.zero_le _, rfl, Below.refl _ _⟩
  case round =>
    obtain ⟨k, hk, rfl, hb⟩ := hrel
    by_cases hlt : k < ss.length
    · have hFr := hF.below hb
      have hLr := hL1.below hb
      have h1r := h11.below hb
      have h2r := h21.below hb
      have hc := hFr k hlt
      obtain ⟨b1, o1, ha1, hc1⟩ := h1r.at hlt
      obtain ⟨b2, o2, ha2, hc2⟩ := h2r.at (by omega : k < vs.length)
      obtain ⟨x, hx⟩ : ∃ x, x = ss.getD k ByteArray.empty := ⟨_, rfl⟩
      obtain ⟨y, hy⟩ : ∃ y, y = vs.getD k ByteArray.empty := ⟨_, rfl⟩
      have hcx := hc1 k hlt
      have hcy := hc2 k (by omega)
      rw [← hx] at hcx
      rw [← hy] at hcy
      subst ha1 ha2
      clear hc1 hc2 hF hL1 h11 h21 h2r
      cases hv : lastB ss k with
      | false =>
        rw [hv] at hc
        clear hv hx hy hFr hLr
        go_wp2
        exact ⟨⟨k + 1, by omega, by go_num, hb⟩, by simp [intOf]; omega⟩
      | true =>
        rw [hv] at hc
        obtain ⟨hr1, hr2, hr3⟩ := HR.out.rank k hlt hv
        have hnm : nm ss k = x.toList := by rw [hx]; rfl
        rw [hnm] at hr1 hr2 hr3
        have q1 := hLr.row _ 1 hr1 (by omega)
        have q2 := hLr.row _ 2 hr1 (by omega)
        have q3 := hLr.row _ 3 hr1 (by omega)
        rw [hr2, hr3, ← hy] at q1
        have q1' : wr.cell? ⟨g, rankN ss x.toList * 4 + 1, none⟩ = some (.string y) := q1
        have q2' : wr.cell? ⟨g, rankN ss x.toList * 4 + 1 + 1, none⟩ = some (.slice none 0 0) := q2
        have q3' : wr.cell? ⟨g, rankN ss x.toList * 4 + 1 + 2, none⟩ = some (.bool false) := q3
        have hyo := fun o1 => cell_older hcy o1
        have hyo2 := fun o1 o2 => cell_older (cell_older hcy o1) o2
        clear q1 q2 q3 hr2 hr3 hv hnm hx hy hLr
        go_wp2_with fail
        refine (rank_any _ _ ss x _ _ _ h1r hFr hn).mono ?_
        rintro e wr' ⟨rfl, rfl⟩
        clear h1r hFr hcx hc
        go_wp2_with fail
        go_region_with (first | (go_at_call 32; refine (value_any g _ _ _ y _ hr1 (by exact q1') (by exact q2') (by exact q3')).mono ?_; rintro e w' ⟨rfl, rfl⟩) | (go_at_call 31; refine (text_any _ _).mono ?_; rintro e w' ⟨rfl, rfl⟩))
        all_goals
          go_wp2
          exact ⟨⟨k + 1, by omega, by go_num, below_two hb _ _⟩, by simp [intOf]; omega⟩
    · have hkk : k = ss.length := by omega
      subst hkk
      go_wp2
      go_ret
      exact ⟨rfl, hb1.trans (hb.mono hb1.size)⟩
end Go.Proofs.Qxb6613624a
