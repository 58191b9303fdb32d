/-
  (*level).index BY ITS CONTRACT (over (defList).Len, Name): the binary search gives how many keys stand below the name, and whether it is one of them.
-/
import Derived.Test.Qxb6613624aCommon
namespace Go.Proofs.Qxb6613624a
open Go.RowKit Go.Maps
set_option maxRecDepth 100000 in
theorem name_any (g n cap i : Nat) (x : ByteArray) (w : World) (hi : i < n) (h1 : w.cell? ⟨g, i * 4, none⟩ = some (.string x)) :
    Calls Try.prog 87 #[.slice (some ⟨g, 0, none⟩) n cap, .int .i64 i] w fun e w' => e = .returned (.string x) ∧ w' = w := by
  go_enter Try.func87, Try.ntmps87
  go_wp2
  go_ret
  exact ⟨rfl, rfl⟩
theorem len_any (g n cap : Nat) (w : World) :
    Calls Try.prog 86 #[.slice (some ⟨g, 0, none⟩) n cap] w fun e w' => e = .returned (.int .i64 n) ∧ w' = w := by
  go_enter Try.func86, Try.ntmps86
  go_wp2
  go_ret
  exact ⟨rfl, rfl⟩
theorem method_len (a : Option Addr) (n c : Nat) (w : World) : (method 227 51 (.slice a n c) "Len").run Try.prog w = .ok (86, .slice a n c) w := by kernel_rfl
theorem method_name (a : Option Addr) (n c : Nat) (w : World) : (method 227 51 (.slice a n c) "Name").run Try.prog w = .ok (87, .slice a n c) w := by kernel_rfl

/-- How many keys stand below x. -/
def posN (ks : List (List UInt8)) (x : List UInt8) : Nat := ks.countP (fun y => decide (y < x))
theorem posN_le (ks : List (List UInt8)) (x : List UInt8) : posN ks x ≤ ks.length := List.countP_le_length
/-- In a strictly rising list the i-th stands below x just if i is less than how many do. -/
theorem posN_lt : ∀ (ks : List (List UInt8)) (x : List UInt8), ks.Pairwise (· < ·) → ∀ i, i < ks.length → (ks.getD i [] < x ↔ i < posN ks x)
  | [], _, _, i, hi => by simp at hi
  | a :: r, x, hp, 0, _ => by
    have hp' := List.pairwise_cons.1 hp
    simp only [List.getD_cons_zero, posN, List.countP_cons]
    constructor
    · intro h
      simp [h]
    · intro h
      by_cases ha : a < x
      · exact ha
      · rw [List.countP_eq_zero.2 ?_] at h
        · simp [ha] at h
        · intro y hy
          simp only [decide_eq_true_eq]
          intro hyx
          exact ha (List.lt_trans (hp'.1 y hy) hyx)
  | a :: r, x, hp, i + 1, hi => by
    have hp' := List.pairwise_cons.1 hp
    have hi' : i < r.length := by simpa using hi
    have ih := posN_lt r x hp'.2 i hi'
    simp only [List.getD_cons_succ, posN, List.countP_cons] at ih ⊢
    constructor
    · intro h
      have := ih.1 h
      have ha : a < x := List.lt_trans (hp'.1 _ (by rw [List.getD, List.getElem?_eq_getElem hi']; exact List.getElem_mem hi')) h
      simp [ha]
      exact this
    · intro h
      apply ih.2
      split at h <;> omega
theorem posN_mem {ks : List (List UInt8)} {x : List UInt8} (hp : ks.Pairwise (· < ·)) : (posN ks x < ks.length ∧ ks.getD (posN ks x) [] = x) ↔ x ∈ ks := by
  constructor
  · rintro ⟨h1, h2⟩
    rw [List.getD, List.getElem?_eq_getElem h1] at h2
    exact h2 ▸ List.getElem_mem h1
  · intro h
    obtain ⟨i, hi, he⟩ := List.getElem_of_mem h
    have hc := countP_below ks hp i hi
    rw [he] at hc
    have : posN ks x = i := hc
    rw [this]
    exact ⟨hi, by rw [List.getD, List.getElem?_eq_getElem hi]; exact he⟩

/-- The key's cell as a string. -/
theorem Level.key {w : World} {sc lv g : Nat} {up : Option Addr} {ks : List (List UInt8)} {tx : List UInt8 → ByteArray} (h : Level w sc lv g up ks tx) {i : Nat} (hi : i < ks.length) : ∃ y : ByteArray, w.cell? ⟨g, i * 4, none⟩ = some (.string y) ∧ y.toList = ks.getD i [] := by
  refine ⟨⟨(ks.getD i []).toArray⟩, ?_, ?_⟩
  · have := h.row i 0 hi (by omega)
    simpa [encStr] using this
  · rw [ByteArray.toList_eq]

theorem ret_pair {a b : Int} {p q : Bool} (h : a = b) (k : p = q) : Ending.returned (.tuple #[.int .i64 a, .bool p]) = .returned (.tuple #[.int .i64 b, .bool q]) := by rw [h, k]

set_option maxRecDepth 100000 in
set_option maxHeartbeats 1000000 in
theorem index_any (sc lv g : Nat) (up : Option Addr) (ks : List (List UInt8)) (tx : List UInt8 → ByteArray) (x : ByteArray) (w : World) (hL : Level w sc lv g up ks tx) (hn : ks.length ≤ 4096) (hS : Hid (ks.Pairwise (· < ·))) :
    Calls Try.prog 46 #[.pointer (some ⟨lv, 0, none⟩), .string x] w fun e w' => e = .returned (.tuple #[.int .i64 (posN ks x.toList), .bool (decide (x.toList ∈ ks))]) ∧ w' = w := by
  obtain ⟨cap, hd⟩ := hL.defs
  have hml := method_len
  have hmn := method_name
  go_enter Try.func46, Try.ntmps46
  go_wp2_with fail
  refine (len_any g ks.length cap _).mono ?_
  rintro e w' ⟨rfl, rfl⟩
  have hP := posN_le ks x.toList
  go_wp2_with fail
  go_loop [6, 7] (fun a b => ∃ lo hi : Nat, lo ≤ posN ks x.toList ∧ posN ks x.toList ≤ hi ∧ hi ≤ ks.length ∧ a = .int .i64 lo ∧ b = .int .i64 hi) (fun a b => (intOf b).toNat - (intOf a).toNat)
  case atStart => exact ⟨0, ks.length, Nat.zero_le _, hP, Nat.le_refl _, rfl, rfl⟩
  case round =>
    obtain ⟨lo, hi, hlo, hhi, hhn, rfl, rfl⟩ := hrel
    by_cases hlt : lo < hi
    · obtain ⟨mid, hmid⟩ : ∃ mid, mid = (lo + hi) / 2 := ⟨_, rfl⟩
      have hm1 : lo ≤ mid ∧ mid < hi := by omega
      have hmi : ((lo : Int) + (hi : Int)) / 2 = (mid : Int) := by omega
      obtain ⟨hm2, hm3⟩ := hm1
      clear hmid
      obtain ⟨y, hy, hye⟩ := hL.key (i := mid) (by omega)
      have hlt' := posN_lt ks x.toList hS.out mid (by omega)
      rw [← hye] at hlt'
      have hbl := bytesLess_eq y.toList x.toList
      have Hye : Hid (y.toList = ks.getD mid []) := hye
      clear hye
      cases hc : Op.bytesLess y.toList x.toList with
      | true =>
        have hpm : mid < posN ks x.toList := hlt'.1 (by rw [hbl] at hc; simpa using hc)
        clear hlt' hbl
        go_wp2_with fail
        refine (name_any g ks.length cap mid y _ (by omega) hy).mono ?_
        rintro e w1 ⟨rfl, rfl⟩
        go_wp2
        exact ⟨⟨mid + 1, hi, by omega, hhi, hhn, by go_num, rfl⟩, by simp [intOf]; omega⟩
      | false =>
        have hpm : posN ks x.toList ≤ mid := by
          rw [hbl] at hc
          have hnl : ¬ y.toList < x.toList := by simpa using hc
          have := mt hlt'.2 hnl
          omega
        clear hlt' hbl
        go_wp2_with fail
        refine (name_any g ks.length cap mid y _ (by omega) hy).mono ?_
        rintro e w1 ⟨rfl, rfl⟩
        go_wp2
        exact ⟨⟨lo, mid, hlo, hpm, by omega, rfl, rfl⟩, by simp [intOf]; omega⟩
    · have hpe : lo = posN ks x.toList := by omega
      have HM := posN_mem (x := x.toList) hS.out
      rw [← hpe] at HM
      have HP : Hid (lo = posN ks x.toList) := hpe
      clear hpe
      by_cases hll : lo < ks.length
      · obtain ⟨y, hy, hye⟩ := hL.key hll
        rw [← hye] at HM
        clear hye
        cases hc : (y.toList == x.toList) with
        | true =>
          have HF : Hid (decide (x.toList ∈ ks) = true) := by
            unfold Hid
            rw [decide_eq_true_iff]
            exact HM.1 ⟨hll, by simpa using hc⟩
          clear HM
          go_wp2_with fail
          refine (len_any g ks.length cap _).mono ?_
          rintro e w1 ⟨rfl, rfl⟩
          go_wp2_with fail
          refine (name_any g ks.length cap lo y _ hll hy).mono ?_
          rintro e w2 ⟨rfl, rfl⟩
          go_wp2
          go_ret2
          exact ⟨ret_pair (by rw [HP.out]) HF.out.symm, rfl⟩
        | false =>
          have HF : Hid (decide (x.toList ∈ ks) = false) := by
            unfold Hid
            rw [decide_eq_false_iff_not]
            intro hm
            have := (HM.2 hm).2
            rw [this] at hc
            simp at hc
          clear HM
          go_wp2_with fail
          refine (len_any g ks.length cap _).mono ?_
          rintro e w1 ⟨rfl, rfl⟩
          go_wp2_with fail
          refine (name_any g ks.length cap lo y _ hll hy).mono ?_
          rintro e w2 ⟨rfl, rfl⟩
          go_wp2
          go_ret2
          exact ⟨ret_pair (by rw [HP.out]) HF.out.symm, rfl⟩
      · have HF : Hid (decide (x.toList ∈ ks) = false) := by
          unfold Hid
          rw [decide_eq_false_iff_not]
          intro hm
          exact hll (HM.2 hm).1
        clear HM
        have hdl : decide ((lo : Int) < (ks.length : Int)) = false := by simpa using hll
        go_wp2_with fail
        refine (len_any g ks.length cap _).mono ?_
        rintro e w1 ⟨rfl, rfl⟩
        go_wp2
        go_ret2
        exact ⟨ret_pair (by rw [HP.out]) HF.out.symm, rfl⟩
end Go.Proofs.Qxb6613624a
