/-
  ZZcountAbove BY ITS CONTRACT: the list of definitions is laid from the scopes' levels and the indexes, then countAbove counts.
-/
import Derived.Test.Qxb6613624aCount
import Derived.RegionTactic
import Derived.Deep.Light
namespace Go.Proofs.Qxb6613624a
open Go.RowKit Go.Maps
theorem Try.info66 : (Try.prog.info? 66).map (fun i => (i.zero, i.size, i.bytes)) = some (some (.agg #[.pointer none, .int .i64 0]), 2, 16) := by kernel_rfl
/-- A slice of numbers at address a. -/
def Ints (w : World) (a : Option Addr) (zs : List Int) : Prop :=
  zs = [] ∨ ∃ b off, a = some ⟨b, off, none⟩ ∧ ∀ j, j < zs.length → w.cell? ⟨b, off + j, none⟩ = some (.int .i64 (zs.getD j 0))
theorem Ints.at {w : World} {a : Option Addr} {zs : List Int} (h : Ints w a zs) {k : Nat} (hk : k < zs.length) :
    ∃ b off, a = some ⟨b, off, none⟩ ∧ ∀ j, j < zs.length → w.cell? ⟨b, off + j, none⟩ = some (.int .i64 (zs.getD j 0)) := by
  rcases h with h | h
  · rw [h] at hk; simp at hk
  · exact h
theorem Ints.below {w w' : World} {a : Option Addr} {zs : List Int} (h : Ints w a zs) (hb : Below w.heap.size w w') : Ints w' a zs := by
  rcases h with h | ⟨b, off, h1, h2⟩
  · exact Or.inl h
  · exact Or.inr ⟨b, off, h1, fun j hj => cell_below (h2 j hj) hb⟩
/-- The list of definitions as it stands behind k rounds: its c-th cell. -/
def defCell (ds : List (Nat × Nat)) (k c : Nat) : Value :=
  if c / 2 < k then (if c % 2 = 0 then .pointer (some ⟨(ds.getD (c / 2) (0, 0)).1, 0, none⟩) else .int .i64 (ds.getD (c / 2) (0, 0)).2)
  else (if c % 2 = 0 then .pointer none else .int .i64 0)
def rowTo (ds : List (Nat × Nat)) (k : Nat) : List Value := (List.range (ds.length * 2)).map (defCell ds k)
theorem rowTo_zero (ds : List (Nat × Nat)) : (madeCells (Value.agg #[.pointer none, .int .i64 0]).cells (ds.length * 2)).toList = rowTo ds 0 := by
  apply List.ext_getElem
  · simp [madeCells, rowTo]
  · intro i h1 h2
    simp only [rowTo, List.getElem_map, List.getElem_range, defCell, Nat.not_lt_zero, if_false]
    simp only [madeCells, Value.cells]
    have : i % 2 = 0 ∨ i % 2 = 1 := by omega
    rcases this with h | h <;> simp [h]
theorem rowTo_succ (ds : List (Nat × Nat)) (k : Nat) (_h : k < ds.length) : ((rowTo ds k).set (k * 2) (.pointer (some ⟨(ds.getD k (0, 0)).1, 0, none⟩))).set (k * 2 + 1) (.int .i64 (ds.getD k (0, 0)).2) = rowTo ds (k + 1) := by
  apply List.ext_getElem
  · simp [rowTo]
  · intro i h1 h2
    rw [List.getElem_set, List.getElem_set]
    by_cases e1 : k * 2 + 1 = i
    · subst e1
      rw [if_pos rfl]
      simp only [rowTo, List.getElem_map, List.getElem_range, defCell]
      rw [if_pos (by omega), if_neg (by omega), show (k * 2 + 1) / 2 = k from by omega]
    · rw [if_neg e1]
      by_cases e2 : k * 2 = i
      · subst e2
        rw [if_pos rfl]
        simp only [rowTo, List.getElem_map, List.getElem_range, defCell]
        rw [if_pos (by omega), if_pos (by omega), show k * 2 / 2 = k from by omega]
      · rw [if_neg e2]
        simp only [rowTo, List.getElem_map, List.getElem_range, defCell]
        by_cases e3 : i / 2 < k
        · rw [if_pos e3, if_pos (show i / 2 < k + 1 by omega)]
        · rw [if_neg e3, if_neg (show ¬ i / 2 < k + 1 by omega)]
theorem rowTo_row {w : World} {base b cap : Nat} {ds : List (Nat × Nat)} (h : w.ownsRow base 66 2 (.slice (some ⟨b, 0, none⟩) ds.length cap) ds.length (rowTo ds ds.length)) : DefRow w b ds := by
  intro k hk
  constructor
  · rw [h.cellAt (k * 2) (by omega)]
    simp only [rowTo, List.getElem?_map, List.getElem?_range (show k * 2 < ds.length * 2 by omega), Option.map_some, defCell]
    rw [if_pos (by omega), if_pos (by omega), show k * 2 / 2 = k from by omega]
  · rw [h.cellAt (k * 2 + 1) (by omega)]
    simp only [rowTo, List.getElem?_map, List.getElem?_range (show k * 2 + 1 < ds.length * 2 by omega), Option.map_some, defCell]
    rw [if_pos (by omega), if_neg (by omega), show (k * 2 + 1) / 2 = k from by omega]

set_option maxRecDepth 100000 in
set_option maxHeartbeats 1000000 in
theorem zzCount_any (L : Lv) (r : List Lv) (i : Nat) (q : List UInt8) (b1 cap1 c2 : Nat) (a2 : Option Addr) (scs : List Nat) (zs : List Int) (ds : List (Nat × Nat)) (w : World) (hC : Hid (Chain w (L :: r))) (hi : i < L.ks.length) (hq : Hid (L.ks.getD i [] = q))
    (hr : r.length ≤ 100) (hn : ds.length ≤ 100000) (hl2 : Hid (zs.length = ds.length))
    (hS : ∀ k, k < ds.length → w.cell? ⟨b1, k, none⟩ = some (.pointer (some ⟨scs.getD k 0, 0, none⟩)) ∧ w.cell? ⟨scs.getD k 0, 1, none⟩ = some (.pointer (some ⟨(ds.getD k (0, 0)).1, 0, none⟩)))
    (hZ : Ints w a2 zs) (hZd : Hid (∀ k, k < ds.length → zs.getD k 0 = ((ds.getD k (0, 0)).2 : Int))) (hB : Hid (∀ d ∈ ds, LvBlk w d.1)) :
    Calls Try.prog 25 #[.pointer (some ⟨L.sc, 0, none⟩), .int .i64 i, .slice (some ⟨b1, 0, none⟩) ds.length cap1, .slice a2 ds.length c2] w fun e w' => e = .returned (.int .i64 (cntUp q ds r)) ∧ Below w.heap.size w w' := by
  obtain ⟨i0, hii, hz0, hz1, hz2⟩ := info_parts Try.info66
  go_enter Try.func25, Try.ntmps25
  go_wp2_with (at_make; refine wpList_make_full _ rfl _ _ 64 rfl w.heap.size 66 i0 _ 2 Try.underlying64 hii hz0 hz1 .i64 .i64 _ _ ds.length rfl rfl rfl rfl (by rw [hz2]; omega) (by unfold maxLen; omega) (Nat.le_refl _) ?_; intro w1 hown1 hgrow1)
  go_loopw [16] (fun v wr => ∃ k : Nat, k ≤ ds.length ∧ v = .int .i64 k ∧ wr.ownsRow w.heap.size 66 2 (.slice (some ⟨w.heap.size, 0, none⟩) ds.length ds.length) ds.length (rowTo ds k) ∧ Below w.heap.size w wr) (fun v _ => ds.length - (intOf v).toNat)
  case atStart => exact ⟨0, Nat.zero_le _, rfl, rowTo_zero ds ▸ hown1, (Below.refl _ _).grown hgrow1 (Nat.le_refl _) (fun j hj => by cases hj)⟩
  case round =>
    obtain ⟨k, hk, rfl, hown, hb⟩ := hrel
    by_cases hlt : k < ds.length
    · obtain ⟨q1, q2⟩ := hS k hlt
      obtain ⟨ob, oo, ha2, hc2⟩ := hZ.at (k := k) (by rw [hl2.out]; exact hlt)
      have q3 := hc2 k (by rw [hl2.out]; exact hlt)
      rw [hZd.out k hlt] at q3
      obtain ⟨p1, hp1⟩ : ∃ p1, p1 = (ds.getD k (0, 0)).1 := ⟨_, rfl⟩
      obtain ⟨p2, hp2⟩ : ∃ p2, p2 = (ds.getD k (0, 0)).2 := ⟨_, rfl⟩
      obtain ⟨sk, hsk⟩ : ∃ sk, sk = scs.getD k 0 := ⟨_, rfl⟩
      rw [← hsk] at q1 q2
      rw [← hp1] at q2
      rw [← hp2] at q3
      have q1' := cell_below q1 hb
      have q2' := cell_below q2 hb
      have q3' := cell_below q3 hb
      have f1 := hown.frozenAt (k * 2)
      have f2 := hown.frozenAt (k * 2 + 1)
      have g1 := hown.cellAt (k * 2) (by omega)
      have g2 := hown.cellAt (k * 2 + 1) (by omega)
      have st1 := (hown.stored (k * 2) (.pointer (some ⟨p1, 0, none⟩))).1
      have st2 := (st1.stored (k * 2 + 1) (.int .i64 p2)).1
      rw [hp1, hp2, rowTo_succ ds k hlt, ← hp1, ← hp2] at st2
      simp only [rowTo, List.getElem?_map, List.getElem?_range (show k * 2 < ds.length * 2 by omega), List.getElem?_range (show k * 2 + 1 < ds.length * 2 by omega), Option.map_some] at g1 g2
      subst ha2
      clear hp1 hp2 hsk q1 q2 q3 hc2 hown1 hgrow1 st1
      go_wp2
      go_region
      go_wp2
      go_light
      exact ⟨⟨k + 1, by omega, by go_num, st2, (hb.drew.setCell (Nat.le_refl _) _).setCell (Nat.le_refl _) _⟩, by simp [intOf]; omega⟩
    · have hkk : k = ds.length := by omega
      subst hkk
      have hDR := rowTo_row hown
      have HCr : Hid (Chain wr (L :: r)) := Chain.below hb hC.out
      have hva := HCr.out.1.vars
      have hBr : Hid (∀ d ∈ ds, LvBlk wr d.1) := fun d hd => lv_below (hB.out d hd) hb
      go_wp2_with fail
      refine (countAbove_any L r i q _ _ ds wr HCr hi hq hr (by omega) hDR hBr).mono ?_
      rintro e w2 ⟨rfl, hb2⟩
      go_wp2
      go_ret
      exact ⟨rfl, hb.trans (hb2.mono hb.size)⟩
end Go.Proofs.Qxb6613624a
