/-
  THE PLAIN LAW: a map that holds the pairs of two lists, its keys sorted, reads as zzLevelReads asks: as many keys as distinct names; at a name's rank that name.
-/
import Derived.Test.Qxb6613624aReads
import Derived.Sort.Walk0
namespace Go.Proofs.Qxb6613624a
open Go.RowKit Go.Maps

theorem cntTo_filter (p : Nat → Bool) (k : Nat) : cntTo p k = ((List.range k).filter p).length := by
  induction k with
  | zero => rfl
  | succ k ih =>
    rw [List.range_succ, List.filter_append, List.length_append, ← ih]
    simp only [cntTo, List.filter_cons, List.filter_nil]
    cases p k <;> simp
/-- The names at the positions that hold the last of their name. -/
def lasts (ss : List ByteArray) : List (List UInt8) := ((List.range ss.length).filter (lastB ss)).map (nm ss)
theorem cnt_lasts (ss : List ByteArray) (f : List UInt8 → Bool) : cntTo (fun j => lastB ss j && f (nm ss j)) ss.length = (lasts ss).countP f := by
  rw [cntTo_filter, lasts, List.countP_map, List.countP_eq_length_filter, List.filter_filter]
  congr 1
  apply List.filter_congr
  intro x _
  simp [Bool.and_comm]
theorem distinct_lasts (ss : List ByteArray) : distinctN ss = (lasts ss).length := by
  rw [distinctN, cntTo_filter, lasts, List.length_map]
theorem lastB_iff (ss : List ByteArray) (j : Nat) : lastB ss j = true ↔ ∀ i, j < i → i < ss.length → nm ss i ≠ nm ss j := by
  rw [lastB, Bool.not_eq_true', Bool.eq_false_iff, ne_eq, again_iff]
  constructor
  · intro h i h1 h2 h3
    exact h ⟨i, h1, h2, h3⟩
  · rintro h ⟨i, h1, h2, h3⟩
    exact h i h1 h2 h3
theorem lasts_nodup (ss : List ByteArray) : (lasts ss).Nodup := by
  refine List.pairwise_map.2 ?_
  have hp : (List.range ss.length).Pairwise (· < ·) := List.pairwise_lt_range
  have hq := hp.sublist (List.filter_sublist (p := lastB ss))
  refine hq.imp_of_mem ?_
  intro a b ha hb hlt e
  have h1 := (List.mem_filter.1 ha).2
  have h2 := List.mem_range.1 (List.mem_filter.1 hb).1
  exact (lastB_iff ss a).1 h1 b hlt h2 e.symm
theorem exists_last (ss : List ByteArray) (x : List UInt8) : ∀ m i, ss.length ≤ i + m → i < ss.length → nm ss i = x → ∃ j, j < ss.length ∧ lastB ss j = true ∧ nm ss j = x
  | 0, i, h, hi, _ => by omega
  | m + 1, i, h, hi, hx => by
    cases hl : lastB ss i with
    | true => exact ⟨i, hi, hl, hx⟩
    | false =>
      have : again ss i ss.length = true := by simpa [lastB] using hl
      obtain ⟨k, h1, h2, h3⟩ := (again_iff ss i ss.length).1 this
      exact exists_last ss x m k (by omega) h2 (h3.trans hx)
theorem mem_lasts (ss : List ByteArray) (x : List UInt8) : x ∈ lasts ss ↔ ∃ i, i < ss.length ∧ nm ss i = x := by
  rw [lasts, List.mem_map]
  constructor
  · rintro ⟨j, hj, rfl⟩
    exact ⟨j, List.mem_range.1 (List.mem_filter.1 hj).1, rfl⟩
  · rintro ⟨i, hi, hx⟩
    obtain ⟨j, h1, h2, h3⟩ := exists_last ss x ss.length i (by omega) hi hx
    exact ⟨j, List.mem_filter.2 ⟨List.mem_range.2 h1, h2⟩, h3⟩

theorem lasts_perm {ss vs : List ByteArray} {D : DataW Unit} (hk : KeysOk D) (hM : MapIs ss vs ss.length D) : (lasts ss).Perm (keysOf D) := by
  refine List.Perm.trans ?_ (List.mergeSort_perm (strKeys D) leB).symm
  refine (List.perm_ext_iff_of_nodup (lasts_nodup ss) hk.1).2 fun x => ?_
  rw [mem_lasts, hk.2 x, hM.keys x, holdsTo_iff]

/-- The keys stand in strictly rising order. -/
theorem keysOf_sorted {D : DataW Unit} (hk : KeysOk D) : (keysOf D).Pairwise (· < ·) := by
  have tr : ∀ a b c : List UInt8, leB a b = true → leB b c = true → leB a c = true := fun a b c h1 h2 => by simp only [leB, decide_eq_true_eq] at *; exact List.le_trans h1 h2
  have to : ∀ a b : List UInt8, (leB a b || leB b a) = true := fun a b => by simp only [leB, Bool.or_eq_true, decide_eq_true_eq]; exact List.le_total a b
  have h1 := List.pairwise_mergeSort tr to (strKeys D)
  have h2 : (keysOf D).Nodup := (List.mergeSort_perm (strKeys D) leB).nodup_iff.2 hk.1
  refine List.pairwise_iff_getElem.2 fun i j hi hj hij => ?_
  have hle := List.pairwise_iff_getElem.1 h1 i j hi hj hij
  have hne := List.pairwise_iff_getElem.1 h2 i j hi hj hij
  simp only [leB, decide_eq_true_eq] at hle
  by_cases h : (keysOf D)[i] < (keysOf D)[j]
  · exact h
  · exact absurd (List.le_antisymm hle (List.not_lt.1 h)) hne

/-- In a strictly rising list as many stand below the i-th as stand ahead of it. -/
theorem countP_below : ∀ (l : List (List UInt8)), l.Pairwise (· < ·) → ∀ (i : Nat) (hi : i < l.length), l.countP (fun x => decide (x < l[i])) = i
  | [], _, i, hi => by simp at hi
  | a :: r, hp, 0, _ => by
    have hp' := List.pairwise_cons.1 hp
    simp only [List.getElem_cons_zero, List.countP_cons]
    rw [List.countP_eq_zero.2 ?_]
    · simp [List.lt_irrefl]
    · intro x hx
      simp only [decide_eq_true_eq]
      exact List.lt_asymm (hp'.1 x hx)
  | a :: r, hp, i + 1, hi => by
    have hp' := List.pairwise_cons.1 hp
    have hi' : i < r.length := by simpa using hi
    simp only [List.getElem_cons_succ, List.countP_cons]
    rw [countP_below r hp'.2 i hi']
    have : a < r[i] := hp'.1 _ (List.getElem_mem hi')
    simp [this]

theorem rank_keys {ss vs : List ByteArray} {D : DataW Unit} (hk : KeysOk D) (hM : MapIs ss vs ss.length D) (q : List UInt8) : rankN ss q = (keysOf D).countP (fun x => decide (x < q)) := by
  rw [rankN, cnt_lasts ss (fun x => Op.bytesLess x q), (lasts_perm hk hM).countP_eq]
  apply List.countP_congr
  intro x _
  rw [bytesLess_eq]
theorem rank_at {ss vs : List ByteArray} {D : DataW Unit} (hk : KeysOk D) (hM : MapIs ss vs ss.length D) {i : Nat} (hi : i < (keysOf D).length) : rankN ss ((keysOf D)[i]) = i := by
  rw [rank_keys hk hM]
  exact countP_below _ (keysOf_sorted hk) i hi
theorem keysOf_distinct {ss vs : List ByteArray} {D : DataW Unit} (hk : KeysOk D) (hM : MapIs ss vs ss.length D) : (keysOf D).length = distinctN ss := by
  rw [distinct_lasts, (lasts_perm hk hM).length_eq]
theorem mem_keysOf {ss vs : List ByteArray} {D : DataW Unit} (hk : KeysOk D) (hM : MapIs ss vs ss.length D) (x : List UInt8) : x ∈ keysOf D ↔ ∃ i, i < ss.length ∧ nm ss i = x := by
  rw [← mem_lasts]
  exact (lasts_perm hk hM).mem_iff.symm

/-- THE PLAIN LAW. -/
theorem reads_of {ss vs : List ByteArray} {D : DataW Unit} (hk : KeysOk D) (hM : MapIs ss vs ss.length D) : Reads ss vs (keysOf D) (txt D) := by
  refine ⟨keysOf_distinct hk hM, fun j hj hl => ?_⟩
  have hm : nm ss j ∈ keysOf D := (mem_keysOf hk hM _).2 ⟨j, hj, rfl⟩
  obtain ⟨i, hi, he⟩ := List.getElem_of_mem hm
  have hr := rank_at hk hM hi
  rw [he] at hr
  rw [hr]
  refine ⟨hi, ?_, hM.vals j hj ((lastB_iff ss j).1 hl)⟩
  rw [List.getD, List.getElem?_eq_getElem hi]
  exact he

end Go.Proofs.Qxb6613624a
