/-
  zzPicksFit, zzScopeAt, zzChosen BY THEIR CONTRACTS.
-/
import Derived.Test.Qxb6613624aZCount
import Derived.Deep.Light
namespace Go.Proofs.Qxb6613624a
open Go.RowKit Go.Maps
/-- Each pick names a level from 1 to 3 and an index that the level has. -/
def Fits (xs zs : List Int) (c1 c2 c3 : Nat) (n : Nat) : Prop :=
  ∀ k, k < n → 0 ≤ zs.getD k 0 ∧ ((xs.getD k 0 = 1 ∧ zs.getD k 0 < c1) ∨ (xs.getD k 0 = 2 ∧ zs.getD k 0 < c2) ∨ (xs.getD k 0 = 3 ∧ zs.getD k 0 < c3))
theorem Fits.step {xs zs : List Int} {c1 c2 c3 k : Nat} {x z : Int} (h : Fits xs zs c1 c2 c3 k) (hx : x = xs.getD k 0) (hz : z = zs.getD k 0) (h0 : 0 ≤ z) (hc : (x = 1 ∧ z < c1) ∨ (x = 2 ∧ z < c2) ∨ (x = 3 ∧ z < c3)) : Fits xs zs c1 c2 c3 (k + 1) := by
  intro j hj
  by_cases e : j = k
  · subst e; rw [← hx, ← hz]; exact ⟨h0, hc⟩
  · exact h j (by omega)
def FitAns (xs zs : List Int) (c1 c2 c3 n : Nat) (e : Ending) : Prop := ∃ b : Bool, e = .returned (.bool b) ∧ Hid (b = true → Fits xs zs c1 c2 c3 n)

set_option maxHeartbeats 1000000 in
theorem picksFit_any (a1 a2 : Option Addr) (xs zs : List Int) (k1 k2 c1 c2 c3 : Nat) (w : World) (hx : Ints w a1 xs) (hz : Ints w a2 zs) (hl : zs.length = xs.length) (hn : xs.length ≤ 4096) :
    Calls Try.prog 21 #[.slice a1 xs.length k1, .slice a2 xs.length k2, .int .i64 c1, .int .i64 c2, .int .i64 c3] w fun e w' => FitAns xs zs c1 c2 c3 xs.length e ∧ w' = w := by
  have HL : Hid (zs.length = xs.length) := hl
  clear hl
  go_enter Try.func21, Try.ntmps21
  go_wp2
  go_loop [11] (fun i => ∃ k : Nat, k ≤ xs.length ∧ i = .int .i64 k ∧ Hid (Fits xs zs c1 c2 c3 k)) (fun i => xs.length - (intOf i).toNat)
  case atStart => exact ⟨0, Nat.zero_le _, rfl, fun j hj => absurd hj (Nat.not_lt_zero _)⟩
  case round =>
    obtain ⟨k, hk, rfl, HF⟩ := hrel
    by_cases hlt : k < xs.length
    · obtain ⟨b1, o1, ha1, h1⟩ := hx.at hlt
      obtain ⟨b2, o2, ha2, h2⟩ := hz.at (k := k) (by rw [HL.out]; exact hlt)
      have q1 := h1 k hlt
      have q2 := h2 k (by rw [HL.out]; exact hlt)
      obtain ⟨x, ex⟩ : ∃ x, x = xs.getD k 0 := ⟨_, rfl⟩
      obtain ⟨z, ez⟩ : ∃ z, z = zs.getD k 0 := ⟨_, rfl⟩
      rw [← ex] at q1
      rw [← ez] at q2
      have EX : Hid (x = xs.getD k 0) := ex
      have EZ : Hid (z = zs.getD k 0) := ez
      subst ha1 ha2
      clear ex ez h1 h2 hx hz
      go_wp2
      all_goals try (go_ret; exact ⟨⟨_, rfl, fun h => by cases h⟩, rfl⟩)
      all_goals
        go_light
        refine ⟨⟨k + 1, by omega, by go_num, HF.out.step EX.out EZ.out ?_ ?_⟩, by simp [intOf]; omega⟩
        · simp only [beq_iff_eq, beq_eq_false_iff_ne, ne_eq] at *
          omega
        · simp only [beq_iff_eq, beq_eq_false_iff_ne, ne_eq] at *
          omega
    · have hkk : k = xs.length := by omega
      subst hkk
      go_wp2
      go_ret
      exact ⟨⟨_, rfl, fun _ => HF.out⟩, rfl⟩

theorem scopeAt_any (l : Int) (p1 p2 p3 : Option Addr) (w : World) (hl : Hid (l = 1 ∨ l = 2 ∨ l = 3)) :
    Calls Try.prog 22 #[.int .i64 l, .pointer p1, .pointer p2, .pointer p3] w fun e w' => e = .returned (.pointer (if l = 1 then p1 else if l = 2 then p2 else p3)) ∧ w' = w := by
  rcases hl.out with rfl | rfl | rfl
  · go_enter Try.func22, Try.ntmps22
    go_wp2
    go_ret
    exact ⟨rfl, rfl⟩
  · go_enter Try.func22, Try.ntmps22
    go_wp2
    go_ret
    exact ⟨rfl, rfl⟩
  · go_enter Try.func22, Try.ntmps22
    go_wp2
    go_ret
    exact ⟨rfl, rfl⟩

/-- Does one of the first k picks name index r of level l? -/
def pickTo (xs zs : List Int) (l r : Int) : Nat → Bool
  | 0 => false
  | k + 1 => pickTo xs zs l r k || (decide (xs.getD k 0 = l) && decide (zs.getD k 0 = r))
theorem pickTo_iff (xs zs : List Int) (l r : Int) (n : Nat) : pickTo xs zs l r n = true ↔ ∃ k, k < n ∧ xs.getD k 0 = l ∧ zs.getD k 0 = r := by
  induction n with
  | zero => simp [pickTo]
  | succ n ih =>
    simp only [pickTo, Bool.or_eq_true, Bool.and_eq_true, decide_eq_true_eq, ih]
    constructor
    · rintro (⟨k, h1, h2⟩ | h)
      · exact ⟨k, by omega, h2⟩
      · exact ⟨n, by omega, h⟩
    · rintro ⟨k, h1, h2⟩
      by_cases e : k = n
      · subst e; exact Or.inr h2
      · exact Or.inl ⟨k, by omega, h2⟩

set_option maxHeartbeats 1000000 in
theorem chosen_any (a0 : Option Addr) (fb : Nat) (ss : List ByteArray) (q : ByteArray) (l : Int) (a1 a2 : Option Addr) (xs zs : List Int) (k0 kf k1 k2 : Nat) (w : World) (hs : Strs w a0 ss) (hf : Flags w fb ss) (hn : ss.length ≤ 4096) (hx : Ints w a1 xs) (hz : Ints w a2 zs) (hl : zs.length = xs.length) (hm : xs.length ≤ 4096) :
    Calls Try.prog 24 #[.slice a0 ss.length k0, .slice (some ⟨fb, 0, none⟩) ss.length kf, .string q, .int .i64 l, .slice a1 xs.length k1, .slice a2 xs.length k2] w fun e w' =>
      e = .returned (.bool (holdsTo ss q.toList ss.length && pickTo xs zs l (rankN ss q.toList) xs.length)) ∧ w' = w := by
  have HL : Hid (zs.length = xs.length) := hl
  clear hl
  go_enter Try.func24, Try.ntmps24
  go_wp2_with fail
  refine (holds_any _ ss q _ _ hs hn).mono ?_
  rintro e w' ⟨rfl, rfl⟩
  cases hh : holdsTo ss q.toList ss.length with
  | false =>
    go_wp2
    go_ret
    exact ⟨ret_bool (by rw [hh]; rfl), rfl⟩
  | true =>
    go_wp2_with fail
    refine (rank_any _ _ ss q _ _ _ hs hf hn).mono ?_
    rintro e w'' ⟨rfl, rfl⟩
    clear hs hf
    go_wp2_with fail
    go_loop [14] (fun i => ∃ k : Nat, k ≤ xs.length ∧ i = .int .i64 k ∧ Hid (pickTo xs zs l (rankN ss q.toList) k = false)) (fun i => xs.length - (intOf i).toNat)
    case atStart => exact ⟨0, Nat.zero_le _, rfl, rfl⟩
    case round =>
      obtain ⟨k, hk, rfl, HF⟩ := hrel
      by_cases hlt : k < xs.length
      · obtain ⟨b1, o1, ha1, h1⟩ := hx.at hlt
        obtain ⟨b2, o2, ha2, h2⟩ := hz.at (k := k) (by rw [HL.out]; exact hlt)
        have q1 := h1 k hlt
        have q2 := h2 k (by rw [HL.out]; exact hlt)
        obtain ⟨x, ex⟩ : ∃ x, x = xs.getD k 0 := ⟨_, rfl⟩
        obtain ⟨z, ez⟩ : ∃ z, z = zs.getD k 0 := ⟨_, rfl⟩
        rw [← ex] at q1
        rw [← ez] at q2
        have EX : Hid (x = xs.getD k 0) := ex
        have EZ : Hid (z = zs.getD k 0) := ez
        subst ha1 ha2
        clear ex ez h1 h2 hx hz
        by_cases e1 : x = l
        · have e1' : (x == l) = true := by simpa using e1
          by_cases e2 : z = (rankN ss q.toList : Int)
          · have e2' : (z == (rankN ss q.toList : Int)) = true := by simpa using e2
            have HT : Hid (pickTo xs zs l (rankN ss q.toList) xs.length = true) := (pickTo_iff _ _ _ _ _).2 ⟨k, hlt, by rw [← EX.out]; exact e1, by rw [← EZ.out]; exact e2⟩
            clear e1 e2
            go_wp2
            go_ret
            exact ⟨ret_bool (by rw [HT.out]), rfl⟩
          · have e2' : (z == (rankN ss q.toList : Int)) = false := by simpa using e2
            have HT : Hid (pickTo xs zs l (rankN ss q.toList) (k + 1) = false) := by
              unfold Hid pickTo
              rw [HF.out, ← EX.out, ← EZ.out]
              simp [e2]
            clear e1 e2
            go_wp2
            exact ⟨⟨k + 1, by omega, by go_num, HT⟩, by simp [intOf]; omega⟩
        · have e1' : (x == l) = false := by simpa using e1
          have HT : Hid (pickTo xs zs l (rankN ss q.toList) (k + 1) = false) := by
            unfold Hid pickTo
            rw [HF.out, ← EX.out]
            simp [e1]
          clear e1
          go_wp2
          exact ⟨⟨k + 1, by omega, by go_num, HT⟩, by simp [intOf]; omega⟩
      · have hkk : k = xs.length := by omega
        subst hkk
        go_wp2
        go_ret
        exact ⟨ret_bool (by rw [HF.out]), rfl⟩
end Go.Proofs.Qxb6613624a
