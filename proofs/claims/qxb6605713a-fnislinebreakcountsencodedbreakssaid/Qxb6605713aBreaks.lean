/-
  THE PLAIN LAW OF LINE BREAKS: the breaks among a string's runes, as range decodes them, are the encodings of the five breaks that stand in its bytes.
-/
import GoSem.Core.Utf8
namespace Go.Proofs.Qxb6605713a
/-- The byte at i, as a number. -/
def bt (s : ByteArray) (i : Nat) : Nat := (s.get! i).toNat
theorem bt_lt (s : ByteArray) (i : Nat) : bt s i < 256 := UInt8.toNat_lt _
/-- Does a line break's encoding begin at i? -/
def eb (s : ByteArray) (i : Nat) : Bool :=
  if bt s i = 10 ∨ bt s i = 13 then true
  else if bt s i = 194 then decide (i + 1 < s.size) && decide (bt s (i + 1) = 133)
  else if bt s i = 226 then decide (i + 2 < s.size) && decide (bt s (i + 1) = 128) && (decide (bt s (i + 2) = 168) || decide (bt s (i + 2) = 169))
  else false
/-- Is the rune a line break? -/
def lb (r : Nat) : Bool := decide (r = 13) || decide (r = 10) || decide (r = 133) || decide (r = 8232) || decide (r = 8233)
def cntTo (p : Nat → Bool) : Nat → Nat
  | 0 => 0
  | k + 1 => cntTo p k + (if p k = true then 1 else 0)

theorem eb_iff (s : ByteArray) (i : Nat) : eb s i = true ↔ (bt s i = 10 ∨ bt s i = 13 ∨ (bt s i = 194 ∧ i + 1 < s.size ∧ bt s (i + 1) = 133) ∨ (bt s i = 226 ∧ i + 2 < s.size ∧ bt s (i + 1) = 128 ∧ (bt s (i + 2) = 168 ∨ bt s (i + 2) = 169))) := by
  unfold eb
  split
  · rename_i h
    simp only [true_iff]
    omega
  · split
    · rename_i h1 h2
      simp only [Bool.and_eq_true, decide_eq_true_eq]
      omega
    · split
      · rename_i h1 h2 h3
        simp only [Bool.and_eq_true, Bool.or_eq_true, decide_eq_true_eq]
        omega
      · rename_i h1 h2 h3
        simp only [Bool.false_eq_true, false_iff]
        omega
theorem lb_iff (r : Nat) : lb r = true ↔ (r = 13 ∨ r = 10 ∨ r = 133 ∨ r = 8232 ∨ r = 8233) := by
  unfold lb
  simp only [Bool.or_eq_true, decide_eq_true_eq]
  omega
theorem eb_cont {s : ByteArray} {i : Nat} (h : bt s i / 64 = 2) : eb s i = false := by
  rw [Bool.eq_false_iff]
  intro hc
  rw [eb_iff] at hc
  omega

theorem eb_of (s : ByteArray) (p : Nat) (h : p < s.size) :
    p + (Utf8.decode s p).2 ≤ s.size ∧ 1 ≤ (Utf8.decode s p).2 ∧ eb s p = lb (Utf8.decode s p).1 ∧ ∀ j, 0 < j → j < (Utf8.decode s p).2 → eb s (p + j) = false := by
  have hd : Utf8.decode s p =
    (if bt s p < 0x80 then (bt s p, 1)
     else if (bt s p / 32 == 6 && (decide (p + 1 < s.size) && bt s (p + 1) / 64 == 2)) = true then
       (if (bt s p % 32) * 64 + bt s (p + 1) % 64 ≥ 0x80 then ((bt s p % 32) * 64 + bt s (p + 1) % 64, 2) else (Utf8.runeError, 1))
     else if (bt s p / 16 == 14 && (decide (p + 1 < s.size) && bt s (p + 1) / 64 == 2) && (decide (p + 2 < s.size) && bt s (p + 2) / 64 == 2)) = true then
       (if ((decide ((bt s p % 16) * 4096 + (bt s (p + 1) % 64) * 64 + bt s (p + 2) % 64 ≥ 0x800)) && Utf8.valid ((bt s p % 16) * 4096 + (bt s (p + 1) % 64) * 64 + bt s (p + 2) % 64)) = true then ((bt s p % 16) * 4096 + (bt s (p + 1) % 64) * 64 + bt s (p + 2) % 64, 3) else (Utf8.runeError, 1))
     else if (bt s p / 8 == 30 && (decide (p + 1 < s.size) && bt s (p + 1) / 64 == 2) && (decide (p + 2 < s.size) && bt s (p + 2) / 64 == 2) && (decide (p + 3 < s.size) && bt s (p + 3) / 64 == 2)) = true then
       (if ((decide ((bt s p % 8) * 262144 + (bt s (p + 1) % 64) * 4096 + (bt s (p + 2) % 64) * 64 + bt s (p + 3) % 64 ≥ 0x10000)) && Utf8.valid ((bt s p % 8) * 262144 + (bt s (p + 1) % 64) * 4096 + (bt s (p + 2) % 64) * 64 + bt s (p + 3) % 64)) = true then ((bt s p % 8) * 262144 + (bt s (p + 1) % 64) * 4096 + (bt s (p + 2) % 64) * 64 + bt s (p + 3) % 64, 4) else (Utf8.runeError, 1))
     else (Utf8.runeError, 1)) := rfl
  rw [hd]
  clear hd
  have b0 := bt_lt s p
  have b1 := bt_lt s (p + 1)
  have b2 := bt_lt s (p + 2)
  have he := eb_iff s p
  have hv : ∀ n : Nat, Utf8.valid n = true ↔ (n < 0xD800 ∨ (0xE000 ≤ n ∧ n ≤ 0x10FFFF)) := fun n => by
    unfold Utf8.valid
    simp only [Bool.or_eq_true, Bool.and_eq_true, decide_eq_true_eq]
    omega
  have run1 : eb s p = false → p + 1 ≤ s.size ∧ 1 ≤ 1 ∧ eb s p = lb Utf8.runeError ∧ ∀ j, 0 < j → j < 1 → eb s (p + j) = false := fun h' =>
    ⟨by omega, Nat.le_refl _, by rw [h']; rfl, fun j h1 h2 => by omega⟩
  by_cases c0 : bt s p < 128
  · rw [if_pos c0]
    refine ⟨by omega, Nat.le_refl _, ?_, fun j h1 h2 => by omega⟩
    rw [Bool.eq_iff_iff, lb_iff, he]
    omega
  rw [if_neg c0]
  by_cases c1 : bt s p / 32 = 6 ∧ p + 1 < s.size ∧ bt s (p + 1) / 64 = 2
  · rw [if_pos (by simpa using c1)]
    obtain ⟨c1a, c1b, c1c⟩ := c1
    by_cases d1 : 128 ≤ bt s p % 32 * 64 + bt s (p + 1) % 64
    · rw [if_pos d1]
      refine ⟨by omega, by omega, ?_, fun j h1 h2 => ?_⟩
      · rw [Bool.eq_iff_iff, lb_iff, he]
        omega
      · obtain rfl : j = 1 := by omega
        exact eb_cont c1c
    · rw [if_neg d1]
      refine run1 ?_
      rw [Bool.eq_false_iff]
      intro hc
      rw [he] at hc
      omega
  rw [if_neg (by simpa using c1)]
  by_cases c2 : (bt s p / 16 = 14 ∧ p + 1 < s.size ∧ bt s (p + 1) / 64 = 2) ∧ p + 2 < s.size ∧ bt s (p + 2) / 64 = 2
  · rw [if_pos (by simpa using c2)]
    obtain ⟨⟨c2a, c2b, c2c⟩, c2d, c2e⟩ := c2
    by_cases d1 : 2048 ≤ bt s p % 16 * 4096 + bt s (p + 1) % 64 * 64 + bt s (p + 2) % 64 ∧ Utf8.valid ((bt s p % 16 * 4096 + bt s (p + 1) % 64 * 64 + bt s (p + 2) % 64 : Nat) : Int) = true
    · rw [if_pos (by simpa using d1)]
      refine ⟨by omega, by omega, ?_, fun j h1 h2 => ?_⟩
      · rw [Bool.eq_iff_iff, lb_iff, he]
        omega
      · have : j = 1 ∨ j = 2 := by omega
        rcases this with rfl | rfl
        · exact eb_cont c2c
        · exact eb_cont c2e
    · rw [if_neg (by simpa using d1)]
      rw [hv] at d1
      refine run1 ?_
      rw [Bool.eq_false_iff]
      intro hc
      rw [he] at hc
      omega
  rw [if_neg (by simpa using c2)]
  by_cases c3 : ((bt s p / 8 = 30 ∧ p + 1 < s.size ∧ bt s (p + 1) / 64 = 2) ∧ p + 2 < s.size ∧ bt s (p + 2) / 64 = 2) ∧ p + 3 < s.size ∧ bt s (p + 3) / 64 = 2
  · rw [if_pos (by simpa using c3)]
    obtain ⟨⟨⟨c2a, c2b, c2c⟩, c2d, c2e⟩, c2f, c2g⟩ := c3
    by_cases d1 : 65536 ≤ bt s p % 8 * 262144 + bt s (p + 1) % 64 * 4096 + bt s (p + 2) % 64 * 64 + bt s (p + 3) % 64 ∧ Utf8.valid ((bt s p % 8 * 262144 + bt s (p + 1) % 64 * 4096 + bt s (p + 2) % 64 * 64 + bt s (p + 3) % 64 : Nat) : Int) = true
    · rw [if_pos (by simpa using d1)]
      refine ⟨by omega, by omega, ?_, fun j h1 h2 => ?_⟩
      · rw [Bool.eq_iff_iff, lb_iff, he]
        omega
      · have : j = 1 ∨ j = 2 ∨ j = 3 := by omega
        rcases this with rfl | rfl | rfl
        · exact eb_cont c2c
        · exact eb_cont c2e
        · exact eb_cont c2g
    · rw [if_neg (by simpa using d1)]
      refine run1 ?_
      rw [Bool.eq_false_iff]
      intro hc
      rw [he] at hc
      omega
  rw [if_neg (by simpa using c3)]
  refine run1 ?_
  rw [Bool.eq_false_iff]
  intro hc
  rw [he] at hc
  omega

theorem cntTo_le (p : Nat → Bool) (k : Nat) : cntTo p k ≤ k := by
  induction k with
  | zero => simp [cntTo]
  | succ k ih => simp only [cntTo]; split <;> omega
theorem cntTo_skip (p : Nat → Bool) (k m : Nat) (h : ∀ j, j < m → p (k + j) = false) : cntTo p (k + m) = cntTo p k := by
  induction m with
  | zero => rfl
  | succ m ih =>
    rw [← Nat.add_assoc]
    simp only [cntTo]
    rw [ih (fun j hj => h j (by omega)), h m (by omega)]
    simp
/-- A rune's step: the breaks counted byte by byte up to behind it. -/
theorem cnt_step (s : ByteArray) (p : Nat) (h : p < s.size) : cntTo (eb s) (p + (Utf8.decode s p).2) = cntTo (eb s) p + (if lb (Utf8.decode s p).1 = true then 1 else 0) := by
  obtain ⟨h1, h2, h3, h4⟩ := eb_of s p h
  obtain ⟨m, hm⟩ : ∃ m, (Utf8.decode s p).2 = 1 + m := ⟨(Utf8.decode s p).2 - 1, by omega⟩
  rw [hm, ← Nat.add_assoc, cntTo_skip (eb s) (p + 1) m (fun j hj => by rw [Nat.add_assoc]; exact h4 (1 + j) (by omega) (by omega))]
  simp only [cntTo]
  rw [h3]
theorem bt_eq (s : ByteArray) (i : Nat) (h : i < s.size) : bt s i = (s[i]'h).toNat := by
  unfold bt
  simp only [ByteArray.get!]
  rw [getElem!_pos s.data i h]
  rfl
end Go.Proofs.Qxb6605713a
