/-
  WHAT THE TWO LAWS ON countAbove SHARE: the copy of the indexes, the chain of three imported levels, the chosen definitions as a list, and the plain laws on them.
-/
import Derived.Test.Qxb6613624aPicks
import Derived.Laws.CopyOwn
import Derived.Deep.DeepCutAuto
import Derived.WalkSpells
namespace Go.Proofs.Qxb6613624a
open Go.RowKit Go.Maps
theorem Try.info25 : (Try.prog.info? 25).map (fun i => (i.zero, i.size, i.bytes)) = some (some (.pointer none), 1, 8) := by kernel_rfl
theorem Try.info3 : (Try.prog.info? 3).map (fun i => (i.zero, i.size, i.bytes)) = some (some (.int .i64 0), 1, 8) := by kernel_rfl
theorem Ints.none {w : World} {zs : List Int} (h : Ints w none zs) : zs = [] := by
  rcases h with h | ⟨b, off, h1, _⟩
  · exact h
  · cases h1

theorem made_block {w w1 : World} {n : Nat} (h : w1.ownsRow w.heap.size 3 1 (.slice (some ⟨w.heap.size, 0, none⟩) n n) n (madeCells (Value.int .i64 0).cells (n * 1)).toList) :
    w1.heap[w.heap.size]? = some (.cells (madeCells (Value.int .i64 0).cells (n * 1)).toList.toArray 3 (0, 0)) := by
  rcases h.2 with ⟨h', _⟩ | ⟨g, cap, cur, h1, _, hg, _, _, hs, ht⟩
  · cases h'
  · cases h1
    rw [hg, ← ht, List.take_of_length_le (by simp [hs])]
theorem copy_src {w w1 : World} {a : Addr} {zs : List Int} {g : Nat} (h : Ints w (some a) zs) (hg : w.grownBy w1 none) : 0 < (zs.map (Value.int .i64)).length → (some (⟨g, 0, none⟩ : Addr) = some ⟨g, 0, none⟩) ∧ ∃ ad, some a = some ad ∧ ∀ j v, (zs.map (Value.int .i64))[j]? = some v → w1.cell? (ad.add j) = some v := by
  intro hp
  refine ⟨rfl, a, rfl, ?_⟩
  intro j v hj
  obtain ⟨hjl, he⟩ := List.getElem?_eq_some_iff.1 hj
  simp only [List.length_map] at hjl
  obtain ⟨b, off, ha, hc⟩ := h.at hjl
  cases ha
  rw [Addr.add_lit]
  refine hg.cell ?_ (by simp)
  rw [hc j hjl]
  simp only [List.getElem_map] at he
  rw [← he, List.getD, List.getElem?_eq_getElem hjl]
  rfl
theorem copy_run {w w1 : World} {a : Addr} {zs : List Int} {c5 : Nat} (h : Ints w (some a) zs)
    (hown : w1.ownsRow w.heap.size 3 1 (.slice (some ⟨w.heap.size, 0, none⟩) zs.length zs.length) zs.length (madeCells (Value.int .i64 0).cells (zs.length * 1)).toList) (hg : w.grownBy w1 none) :
    ∃ w2, (Builtin.copy_ #[34, 34] 3 #[.slice (some ⟨w.heap.size, 0, none⟩) zs.length zs.length, .slice (some a) zs.length c5]).run Try.prog w1 = .ok (goInt zs.length) w2 ∧ Hid (Ints w2 (some ⟨w.heap.size, 0, none⟩) zs) ∧ Below w.heap.size w w2 := by
  have hb1 : Below w.heap.size w w1 := (Below.refl _ _).grown hg (Nat.le_refl _) (fun j hj => by cases hj)
  by_cases h0 : zs = []
  · subst h0
    refine ⟨w1, ?_, Or.inl rfl, hb1⟩
    exact run_copy_none (P := Try.prog) w1 34 34 3 3 _ _ _ _ _ _ Try.underlying34 (by kernel_rfl) rfl
  · have hp : 0 < (zs.map (Value.int .i64)).length := by
      rw [List.length_map]; exact List.length_pos_iff.2 h0
    obtain ⟨_, ad, had, hsrc⟩ := copy_src (g := w.heap.size) h hg hp
    cases had
    have hbl := made_block hown
    have hrun := run_copy_row (P := Try.prog) w1 34 34 3 3 w.heap.size 0 zs.length zs.length a zs.length c5 _ 3 (zs.map (Value.int .i64)) Try.underlying34 (by kernel_rfl) hbl (by simp) hsrc (by simp [madeCells]) (ints_oneCell _ _)
    rw [List.length_map] at hrun
    refine ⟨_, hrun, Or.inr ⟨w.heap.size, 0, rfl, fun j hj => ?_⟩, below_setRow hb1 (Nat.le_refl _) _⟩
    rw [cell_of_row _ _ _ _ _ _ (setRow_heap w1 w.heap.size _ _ 3 _ hbl)]
    have hjm : j < (zs.map (Value.int .i64)).length := by rw [List.length_map]; exact hj
    simp only [List.take_zero, List.nil_append, Nat.zero_add, List.getElem?_toArray]
    rw [List.getElem?_append_left hjm, List.getElem?_map, List.getElem?_eq_getElem hj, List.getD, List.getElem?_eq_getElem hj]
    rfl

theorem distinct_le (ss : List ByteArray) : distinctN ss ≤ ss.length := cntTo_le _ _
theorem picksFit_yes (a1 a2 : Option Addr) (xs zs : List Int) (k1 k2 c1 c2 c3 : Nat) (w : World) (hx : Ints w a1 xs) (hz : Ints w a2 zs) (hl : zs.length = xs.length) (hn : xs.length ≤ 4096) :
    Calls Try.prog 21 #[.slice a1 xs.length k1, .slice a2 zs.length k2, .int .i64 c1, .int .i64 c2, .int .i64 c3] w fun e w' => FitAns xs zs c1 c2 c3 xs.length e ∧ w' = w := by
  rw [hl]
  exact picksFit_any a1 a2 xs zs k1 k2 c1 c2 c3 w hx hz hl hn
theorem keys_short {ss vs : List ByteArray} {D : DataW Unit} (hk : KeysOk D) (hM : MapIs ss vs ss.length D) (hn : ss.length ≤ 4096) : (keysOf D).length ≤ 4096 := by
  rw [keysOf_distinct hk hM]
  have := distinct_le ss
  omega
theorem chain3 {v1 v2 v3 : World} {s1 s2 s3 : List ByteArray} {D1 D2 D3 : DataW Unit} {sc1 lv1 g1 sc2 lv2 g2 sc3 lv3 g3 : Nat}
    (hL1 : Level v1 sc1 lv1 g1 none (keysOf D1) (txt D1)) (hL2 : Level v2 sc2 lv2 g2 (some ⟨sc1, 0, none⟩) (keysOf D2) (txt D2)) (hL3 : Level v3 sc3 lv3 g3 (some ⟨sc2, 0, none⟩) (keysOf D3) (txt D3))
    (x2 : Below v1.heap.size v1 v2) (x3 : Below v2.heap.size v2 v3) (hK1 : KeysOk D1) (hM1 : MapIs s1 s1 s1.length D1) (hK2 : KeysOk D2) (hM2 : MapIs s2 s2 s2.length D2) (hK3 : KeysOk D3) (hM3 : MapIs s3 s3 s3.length D3)
    (q1 : s1.length ≤ 4096) (q2 : s2.length ≤ 4096) (q3 : s3.length ≤ 4096) (hsc2 : v1.heap.size ≤ sc2) (hlv2 : v1.heap.size ≤ lv2) (hsc3 : v2.heap.size ≤ sc3) (hlv3 : v2.heap.size ≤ lv3) :
    Hid (Chain v3 [⟨sc3, lv3, g3, keysOf D3, txt D3⟩, ⟨sc2, lv2, g2, keysOf D2, txt D2⟩, ⟨sc1, lv1, g1, keysOf D1, txt D1⟩]) := by
  have r1 : sc1 < v1.heap.size := World.block_lt_of_cell? v1 _ hL1.up0
  have r2 : lv1 < v1.heap.size := World.block_lt_of_cell? v1 _ hL1.within
  have r3 : sc2 < v2.heap.size := World.block_lt_of_cell? v2 _ hL2.up0
  have r4 : lv2 < v2.heap.size := World.block_lt_of_cell? v2 _ hL2.within
  have r5 := x2.size
  refine ⟨hL3, keysOf_sorted hK3, keys_short hK3 hM3 q3, ?_, hL2.below x3, keysOf_sorted hK2, keys_short hK2 hM2 q2, ?_, (hL1.below x2).below x3, keysOf_sorted hK1, keys_short hK1 hM1 q1, ?_, trivial⟩
  · intro M hM
    simp only [List.mem_cons, List.not_mem_nil, or_false] at hM
    rcases hM with rfl | rfl
    · exact ⟨by show sc2 < sc3; omega, by show lv2 < lv3; omega⟩
    · exact ⟨by show sc1 < sc3; omega, by show lv1 < lv3; omega⟩
  · intro M hM
    simp only [List.mem_cons, List.not_mem_nil, or_false] at hM
    subst hM
    exact ⟨by show sc1 < sc2; omega, by show lv1 < lv2; omega⟩
  · intro M hM
    simp at hM

/-- One of three, by the number of a level. -/
def pick3 (x : Int) (p q r : Nat) : Nat := if x = 1 then p else if x = 2 then q else r
/-- The chosen definitions: a level's block and an index each. -/
def dsOf (xs zs : List Int) (l1 l2 l3 : Nat) : List (Nat × Nat) := (List.range xs.length).map fun k => (pick3 (xs.getD k 0) l1 l2 l3, (zs.getD k 0).toNat)
def scsOf (xs : List Int) (c1 c2 c3 : Nat) : List Nat := (List.range xs.length).map fun k => pick3 (xs.getD k 0) c1 c2 c3
theorem dsOf_length (xs zs : List Int) (l1 l2 l3 : Nat) : (dsOf xs zs l1 l2 l3).length = xs.length := by simp [dsOf]
theorem dsOf_get (xs zs : List Int) (l1 l2 l3 : Nat) {k : Nat} (h : k < xs.length) : (dsOf xs zs l1 l2 l3).getD k (0, 0) = (pick3 (xs.getD k 0) l1 l2 l3, (zs.getD k 0).toNat) := by
  unfold dsOf
  rw [List.getD, List.getElem?_map, List.getElem?_range h]
  rfl
theorem scsOf_get (xs : List Int) (c1 c2 c3 : Nat) {k : Nat} (h : k < xs.length) : (scsOf xs c1 c2 c3).getD k 0 = pick3 (xs.getD k 0) c1 c2 c3 := by
  unfold scsOf
  rw [List.getD, List.getElem?_map, List.getElem?_range h]
  rfl
/-- The scopes' pointers behind k rounds. -/
def ptrRow (xs : List Int) (c1 c2 c3 k : Nat) : List Value := (List.range xs.length).map fun j => if j < k then .pointer (some ⟨pick3 (xs.getD j 0) c1 c2 c3, 0, none⟩) else .pointer none
theorem ptrRow_zero (xs : List Int) (c1 c2 c3 : Nat) : (madeCells (Value.pointer none).cells (xs.length * 1)).toList = ptrRow xs c1 c2 c3 0 := by
  apply List.ext_getElem
  · simp [madeCells, ptrRow]
  · intro i h1 h2
    simp [madeCells, Value.cells, ptrRow, Nat.mod_one]
theorem ptrRow_succ (xs : List Int) (c1 c2 c3 k : Nat) : (ptrRow xs c1 c2 c3 k).set k (.pointer (some ⟨pick3 (xs.getD k 0) c1 c2 c3, 0, none⟩)) = ptrRow xs c1 c2 c3 (k + 1) := by
  apply List.ext_getElem
  · simp [ptrRow]
  · intro i h1 h2
    rw [List.getElem_set]
    by_cases e : k = i
    · subst e
      rw [if_pos rfl]
      simp only [ptrRow, List.getElem_map, List.getElem_range]
      rw [if_pos (by omega)]
    · rw [if_neg e]
      simp only [ptrRow, List.getElem_map, List.getElem_range]
      by_cases e2 : i < k
      · rw [if_pos e2, if_pos (show i < k + 1 by omega)]
      · rw [if_neg e2, if_neg (show ¬ i < k + 1 by omega)]
theorem ptrRow_cell {w : World} {base b cap : Nat} {xs : List Int} {c1 c2 c3 : Nat} (h : w.ownsRow base 25 1 (.slice (some ⟨b, 0, none⟩) xs.length cap) xs.length (ptrRow xs c1 c2 c3 xs.length)) {k : Nat} (hk : k < xs.length) :
    w.cell? ⟨b, k, none⟩ = some (.pointer (some ⟨pick3 (xs.getD k 0) c1 c2 c3, 0, none⟩)) := by
  rw [h.cellAt k (by omega)]
  simp only [ptrRow, List.getElem?_map, List.getElem?_range hk, Option.map_some]
  rw [if_pos hk]
theorem scopeAt_yes (l : Int) (c1 c2 c3 : Nat) (w : World) (hl : Hid (l = 1 ∨ l = 2 ∨ l = 3)) :
    Calls Try.prog 22 #[.int .i64 l, .pointer (some ⟨c1, 0, none⟩), .pointer (some ⟨c2, 0, none⟩), .pointer (some ⟨c3, 0, none⟩)] w fun e w' => e = .returned (.pointer (some ⟨pick3 l c1 c2 c3, 0, none⟩)) ∧ w' = w := by
  refine (scopeAt_any l _ _ _ w hl).mono ?_
  rintro e w' ⟨rfl, rfl⟩
  refine ⟨?_, rfl⟩
  unfold pick3
  split
  · rfl
  · split <;> rfl
theorem Fits.level {xs zs : List Int} {c1 c2 c3 n k : Nat} (h : Hid (Fits xs zs c1 c2 c3 n)) (hk : k < n) : xs.getD k 0 = 1 ∨ xs.getD k 0 = 2 ∨ xs.getD k 0 = 3 := by
  have := (h.out k hk).2
  omega

theorem name_ex {ss : List ByteArray} {D : DataW Unit} (h : Hid (MapIs ss ss ss.length D ∧ KeysOk D)) {di : Int} (h0 : 0 ≤ di) (h1 : di < distinctN ss) : Hid (∃ j, j < ss.length ∧ lastB ss j = true ∧ (rankN ss (nm ss j) : Int) = di) := by
  obtain ⟨hM, hK⟩ := h.out
  have hi : di.toNat < (keysOf D).length := by rw [keysOf_distinct hK hM]; omega
  have hr := rank_at hK hM hi
  obtain ⟨i, hil, hin⟩ := (mem_keysOf hK hM _).1 (List.getElem_mem hi)
  obtain ⟨j, hj, hl, hn⟩ := exists_last ss _ ss.length i (by omega) hil hin
  exact ⟨j, hj, hl, by rw [hn, hr]; omega⟩
theorem posN_keys {ss : List ByteArray} {D : DataW Unit} (h : Hid (MapIs ss ss ss.length D ∧ KeysOk D)) (q : List UInt8) : posN (keysOf D) q = rankN ss q := (rank_keys h.out.2 h.out.1 q).symm
theorem mem_keys {ss : List ByteArray} {D : DataW Unit} (h : Hid (MapIs ss ss ss.length D ∧ KeysOk D)) (q : List UInt8) : q ∈ keysOf D ↔ holdsTo ss q ss.length = true := by
  rw [mem_keysOf h.out.2 h.out.1, holdsTo_iff]
/-- The definition at rank di of the level is that of the name of that rank. -/
theorem def_at {ss : List ByteArray} {D : DataW Unit} (h : Hid (MapIs ss ss ss.length D ∧ KeysOk D)) {j : Nat} (hj : j < ss.length) {di : Int} (hr : (rankN ss (nm ss j) : Int) = di) :
    di = (rankN ss (nm ss j) : Nat) ∧ rankN ss (nm ss j) < (keysOf D).length ∧ (keysOf D).getD (rankN ss (nm ss j)) [] = nm ss j := by
  have hm : nm ss j ∈ keysOf D := (mem_keysOf h.out.2 h.out.1 _).2 ⟨j, hj, rfl⟩
  have := (posN_mem (keysOf_sorted h.out.2)).2 hm
  rw [posN_keys h] at this
  exact ⟨hr.symm, this⟩

theorem hasTo_iff (ds : List (Nat × Nat)) (p : Nat × Nat) (n : Nat) : hasTo ds p n = true ↔ ∃ k, k < n ∧ ds.getD k (0, 0) = p := by
  induction n with
  | zero => simp [hasTo]
  | succ n ih =>
    simp only [hasTo, Bool.or_eq_true, decide_eq_true_eq, ih]
    constructor
    · rintro (⟨k, h1, h2⟩ | h)
      · exact ⟨k, by omega, h2⟩
      · exact ⟨n, by omega, h.symm⟩
    · rintro ⟨k, h1, h2⟩
      by_cases e : k = n
      · subst e; exact Or.inr h2.symm
      · exact Or.inl ⟨k, by omega, h2⟩
/-- The list of the chosen holds index r of level number l just if a pick names it. -/
theorem has_pick {xs zs : List Int} {c1 c2 c3 l1 l2 l3 : Nat} (hF : Fits xs zs c1 c2 c3 xs.length) (h12 : l1 < l2) (h23 : l2 < l3) (l : Int) (hl : l = 1 ∨ l = 2 ∨ l = 3) (r : Nat) :
    hasTo (dsOf xs zs l1 l2 l3) (pick3 l l1 l2 l3, r) (dsOf xs zs l1 l2 l3).length = pickTo xs zs l r xs.length := by
  rw [Bool.eq_iff_iff, hasTo_iff, pickTo_iff, dsOf_length]
  have key : ∀ x : Int, (x = 1 ∨ x = 2 ∨ x = 3) → (pick3 x l1 l2 l3 = pick3 l l1 l2 l3 ↔ x = l) := by
    intro x hx
    unfold pick3
    rcases hx with rfl | rfl | rfl <;> rcases hl with rfl | rfl | rfl <;> simp <;> omega
  constructor
  · rintro ⟨k, hk, he⟩
    rw [dsOf_get xs zs l1 l2 l3 hk] at he
    have hf := hF k hk
    simp only [Prod.mk.injEq] at he
    refine ⟨k, hk, (key _ (by omega)).1 he.1, by omega⟩
  · rintro ⟨k, hk, h1, h2⟩
    refine ⟨k, hk, ?_⟩
    rw [dsOf_get xs zs l1 l2 l3 hk, h1, h2]
    simp
/-- THE PLAIN LAW OF THE CHOSEN: the count over the two levels above is the number of chosen definitions of the name. -/
theorem count_two {s1 s2 : List ByteArray} {D1 D2 : DataW Unit} {xs zs : List Int} {k1 k2 k3 l1 l2 l3 sc1 sc2 g1 g2 : Nat} (H1 : Hid (MapIs s1 s1 s1.length D1 ∧ KeysOk D1)) (H2 : Hid (MapIs s2 s2 s2.length D2 ∧ KeysOk D2))
    (hF : Hid (Fits xs zs k1 k2 k3 xs.length)) (h12 : l1 < l2) (h23 : l2 < l3) (q : List UInt8) :
    cntUp q (dsOf xs zs l1 l2 l3) [⟨sc2, l2, g2, keysOf D2, txt D2⟩, ⟨sc1, l1, g1, keysOf D1, txt D1⟩] =
      (if (holdsTo s2 q s2.length && pickTo xs zs 2 (rankN s2 q) xs.length) = true then 1 else 0) + (if (holdsTo s1 q s1.length && pickTo xs zs 1 (rankN s1 q) xs.length) = true then 1 else 0) := by
  have e2 := has_pick hF.out h12 h23 2 (by omega) (rankN s2 q)
  have e1 := has_pick hF.out h12 h23 1 (by omega) (rankN s1 q)
  have p2 : pick3 2 l1 l2 l3 = l2 := by simp [pick3]
  have p1 : pick3 1 l1 l2 l3 = l1 := by simp [pick3]
  rw [p2] at e2
  rw [p1] at e1
  simp only [cntUp, mem_keys H1, mem_keys H2, posN_keys H1, posN_keys H2, e1, e2, Bool.and_eq_true]
  omega

theorem chosen_yes (a0 : Option Addr) (fb : Nat) (ss : List ByteArray) (q : ByteArray) (l : Int) (a1 a2 : Option Addr) (xs zs : List Int) (k0 kf k1 k2 : Nat) (w : World) (hs : Strs w a0 ss) (hf : Flags w fb ss) (hn : ss.length ≤ 4096) (hx : Ints w a1 xs) (hz : Ints w a2 zs) (hl : zs.length = xs.length) (hm : xs.length ≤ 4096) :
    Calls Try.prog 24 #[.slice a0 ss.length k0, .slice (some ⟨fb, 0, none⟩) ss.length kf, .string q, .int .i64 l, .slice a1 xs.length k1, .slice a2 zs.length k2] w fun e w' =>
      e = .returned (.bool (holdsTo ss q.toList ss.length && pickTo xs zs l (rankN ss q.toList) xs.length)) ∧ w' = w := by
  rw [hl]
  exact chosen_any a0 fb ss q l a1 a2 xs zs k0 kf k1 k2 w hs hf hn hx hz hl hm

theorem zzCount_yes (L : Lv) (r : List Lv) (i : Nat) (di : Int) (q : List UInt8) (b1 cap1 c2 n1 n2 : Nat) (a2 : Option Addr) (scs : List Nat) (zs : List Int) (ds : List (Nat × Nat)) (w : World) (hdi : di = (i : Int)) (hn1 : n1 = ds.length) (hn2 : n2 = ds.length) (hC : Hid (Chain w (L :: r))) (hi : i < L.ks.length) (hq : Hid (L.ks.getD i [] = q))
    (hr : r.length ≤ 100) (hn : ds.length ≤ 100000) (hl2 : Hid (zs.length = ds.length))
    (hS : ∀ k, k < ds.length → w.cell? ⟨b1, k, none⟩ = some (.pointer (some ⟨scs.getD k 0, 0, none⟩)) ∧ w.cell? ⟨scs.getD k 0, 1, none⟩ = some (.pointer (some ⟨(ds.getD k (0, 0)).1, 0, none⟩)))
    (hZ : Ints w a2 zs) (hZd : Hid (∀ k, k < ds.length → zs.getD k 0 = ((ds.getD k (0, 0)).2 : Int))) (hB : Hid (∀ d ∈ ds, LvBlk w d.1)) :
    Calls Try.prog 25 #[.pointer (some ⟨L.sc, 0, none⟩), .int .i64 di, .slice (some ⟨b1, 0, none⟩) n1 cap1, .slice a2 n2 c2] w fun e w' => e = .returned (.int .i64 (cntUp q ds r)) ∧ Below w.heap.size w w' := by
  subst hdi hn1 hn2
  exact zzCount_any L r i q b1 cap1 c2 a2 scs zs ds w hC hi hq hr hn hl2 hS hZ hZd hB

/-- What ZZcountAbove asks of the chosen scopes and indexes. -/
theorem chosen_rows {w : World} {xs zs : List Int} {k1 k2 k3 sc1 lv1 g1 sc2 lv2 g2 sc3 lv3 g3 b : Nat} {D1 D2 D3 : DataW Unit}
    (hC : Hid (Chain w [⟨sc3, lv3, g3, keysOf D3, txt D3⟩, ⟨sc2, lv2, g2, keysOf D2, txt D2⟩, ⟨sc1, lv1, g1, keysOf D1, txt D1⟩])) (hF : Hid (Fits xs zs k1 k2 k3 xs.length))
    (hp : ∀ k, k < xs.length → w.cell? ⟨b, k, none⟩ = some (.pointer (some ⟨pick3 (xs.getD k 0) sc1 sc2 sc3, 0, none⟩))) :
    (∀ k, k < (dsOf xs zs lv1 lv2 lv3).length → w.cell? ⟨b, k, none⟩ = some (.pointer (some ⟨(scsOf xs sc1 sc2 sc3).getD k 0, 0, none⟩)) ∧ w.cell? ⟨(scsOf xs sc1 sc2 sc3).getD k 0, 1, none⟩ = some (.pointer (some ⟨((dsOf xs zs lv1 lv2 lv3).getD k (0, 0)).1, 0, none⟩)))
    ∧ Hid (∀ k, k < (dsOf xs zs lv1 lv2 lv3).length → zs.getD k 0 = (((dsOf xs zs lv1 lv2 lv3).getD k (0, 0)).2 : Int)) ∧ Hid (∀ d ∈ dsOf xs zs lv1 lv2 lv3, LvBlk w d.1) := by
  obtain ⟨hL3, _, _, _, hL2, _, _, _, hL1, _⟩ := hC.out
  have v1 := hL1.vars
  have v2 := hL2.vars
  have v3 := hL3.vars
  have blk : ∀ x : Int, (x = 1 ∨ x = 2 ∨ x = 3) → LvBlk w (pick3 x lv1 lv2 lv3) := by
    intro x hx
    unfold pick3
    rcases hx with rfl | rfl | rfl
    · exact hL1.blk
    · exact hL2.blk
    · exact hL3.blk
  refine ⟨fun k hk => ?_, fun k hk => ?_, fun d hd => ?_⟩
  · rw [dsOf_length] at hk
    rw [scsOf_get xs sc1 sc2 sc3 hk, dsOf_get xs zs lv1 lv2 lv3 hk]
    refine ⟨hp k hk, ?_⟩
    have := Fits.level hF hk
    unfold pick3
    rcases this with h | h | h <;> simp only [h] <;> simp <;> assumption
  · rw [dsOf_length] at hk
    rw [dsOf_get xs zs lv1 lv2 lv3 hk]
    have := (hF.out k hk).1
    simp only
    omega
  · unfold dsOf at hd
    obtain ⟨k, hk, rfl⟩ := List.mem_map.1 hd
    exact blk _ (Fits.level hF (List.mem_range.1 hk))

open Go.ChangeShapes Go.WideShapes Go.ChangeAt in
/-- A slice of numbers among the arguments, as the walks read it. -/
theorem viewInts {H : Type} {enc : TypeId × Value → H} {W : World} {a : Option Addr} {len cap : Nat} {d : DataW H} {p : List MemPlace} (h : DataW.Trod enc Try.prog W 0 (fun _ => true) true 34 (.slice a len cap) d p) :
    ∃ zs : List Int, zs.length = len ∧ Ints W a zs ∧ len ≤ maxLen ∧ True := by
  obtain ⟨fuel, hf⟩ := h
  rcases open_ints Try.underlying34 Try.underlying3 (by kernel_rfl) hf with ⟨hcs, _⟩ | ⟨x, l, c, zs, hcs, _, hl, hm, hz, _, hcell, hwz⟩
  · simp [Value.cells] at hcs
    obtain ⟨rfl, rfl, rfl⟩ := hcs
    exact ⟨[], rfl, Or.inl rfl, Nat.zero_le _, trivial⟩
  · simp [Value.cells] at hcs
    obtain ⟨rfl, rfl, rfl⟩ := hcs
    have hzc : zs.length = cap := by simpa using hz
    refine ⟨zs.take len, by simp; omega, ?_, by omega, trivial⟩
    by_cases h0 : len = 0
    · subst h0; exact Or.inl (by simp)
    · obtain ⟨b, off, spot⟩ := x
      have hspot : spot = none := by simpa [Addr.add] using World.cell?_spot (hcell 0 (by omega))
      subst hspot
      refine Or.inr ⟨b, off, rfl, fun j hj => ?_⟩
      have hj' : j < len := by simp at hj; omega
      have := hcell j (by omega)
      rw [Go.WideShapes.add_plain] at this
      rw [this]
      simp [List.getD, hj']

end Go.Proofs.Qxb6613624a
