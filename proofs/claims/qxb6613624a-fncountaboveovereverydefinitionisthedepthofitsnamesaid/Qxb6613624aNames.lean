/-
  THE SEAT's FUNCTIONS ON LISTS OF NAMES, each by its contract: zzLastFlags (which positions hold the last of their name), zzDistinct, zzRank, zzHolds, zzNameAtRank.
-/
import Derived.Test.Qxb6613624aBase
import Derived.BigQuiet
import Derived.Deep.Light
import Derived.Deep.QuietTactic
namespace Go.Proofs.Qxb6613624a
open Go.RowKit
theorem Try.info4 : (Try.prog.info? 4).map (fun i => (i.zero, i.size, i.bytes)) = some (some (.bool false), 1, 1) := by kernel_rfl

/-- The bytes of the j-th name. -/
def nm (ss : List ByteArray) (j : Nat) : List UInt8 := (ss.getD j ByteArray.empty).toList
/-- Does one of the names between j and k (k not counted) equal the j-th? -/
def again (ss : List ByteArray) (j : Nat) : Nat → Bool
  | 0 => false
  | k + 1 => again ss j k || (decide (j < k) && (nm ss k == nm ss j))
/-- Is the j-th the last of its name? -/
def lastB (ss : List ByteArray) (j : Nat) : Bool := !again ss j ss.length
/-- The flags as they stand behind j rounds. -/
def flagsTo (ss : List ByteArray) (j : Nat) : List Bool := (List.range ss.length).map fun i => decide (i < j) && lastB ss i

theorem flagsTo_length (ss : List ByteArray) (j : Nat) : (flagsTo ss j).length = ss.length := by simp [flagsTo]
theorem flagsTo_zero (ss : List ByteArray) : (madeCells (Value.bool false).cells (ss.length * 1)).toList = (flagsTo ss 0).map Value.bool := by
  have e : flagsTo ss 0 = List.replicate ss.length false := by
    apply List.ext_getElem
    · simp [flagsTo]
    · intro i h1 h2
      simp [flagsTo]
  rw [e]
  apply List.ext_getElem
  · simp [madeCells]
  · intro i h1 h2
    simp [madeCells, Value.cells, Nat.mod_one]
theorem flagsTo_succ (ss : List ByteArray) (j : Nat) (_h : j < ss.length) : (flagsTo ss j).set j (lastB ss j) = flagsTo ss (j + 1) := by
  apply List.ext_getElem
  · simp [flagsTo]
  · intro i h1 h2
    rw [List.getElem_set]
    split
    · rename_i hji
      subst hji
      simp [flagsTo]
    · rename_i hji
      simp only [flagsTo, List.getElem_map, List.getElem_range]
      congr 1
      rw [Bool.eq_iff_iff]
      simp only [decide_eq_true_eq]
      omega
theorem again_iff (ss : List ByteArray) (j k : Nat) : again ss j k = true ↔ ∃ i, j < i ∧ i < k ∧ nm ss i = nm ss j := by
  induction k with
  | zero => simp [again]
  | succ k ih =>
    simp only [again, Bool.or_eq_true, Bool.and_eq_true, decide_eq_true_eq, beq_iff_eq, ih]
    constructor
    · rintro (⟨i, h1, h2, h3⟩ | ⟨h1, h2⟩)
      · exact ⟨i, h1, by omega, h3⟩
      · exact ⟨k, h1, by omega, h2⟩
    · rintro ⟨i, h1, h2, h3⟩
      by_cases hik : i = k
      · subst hik; exact Or.inr ⟨h1, h3⟩
      · exact Or.inl ⟨i, h1, by omega, h3⟩
theorem again_start (ss : List ByteArray) (j : Nat) : again ss j (j + 1) = false := by
  rw [Bool.eq_false_iff]
  intro h
  obtain ⟨i, h1, h2, _⟩ := (again_iff ss j (j + 1)).1 h
  omega
theorem lastB_false {ss : List ByteArray} {j k : Nat} (hj : j < k) (hk : k < ss.length) (h : (nm ss k == nm ss j) = true) : lastB ss j = false := by
  have : again ss j ss.length = true := (again_iff ss j ss.length).2 ⟨k, hj, hk, by simpa using h⟩
  simp [lastB, this]
theorem lastB_true {ss : List ByteArray} {j : Nat} (h : again ss j ss.length = false) : lastB ss j = true := by
  simp [lastB, h]
theorem again_step {ss : List ByteArray} {j k : Nat} (h : again ss j k = false) (h2 : (nm ss k == nm ss j) = false) : again ss j (k + 1) = false := by
  simp [again, h, h2]
theorem ownsRow_drewN {w : World} {base : Nat} {e : TypeId} {size : Nat} {v : Value} {n : Nat} {xs : List Value} (h : w.ownsRow base e size v n xs) (q : Nat) : (w.drewN q).ownsRow base e size v n xs := h
theorem below_setN {B : Nat} {w wr : World} {p : Addr} {u : Value} (hb : Below B w wr) (hp : B ≤ p.block) (q : Nat) : Below B w ((wr.drewN q).setCell p u) :=
  (below_drewN hb q).setCell hp u
theorem step_false {ss : List ByteArray} {j k B : Nat} {wr : World} (hlt : j < ss.length) (hjk : j < k) (hk : k < ss.length) (h : ((ss.getD k ByteArray.empty).toList == (ss.getD j ByteArray.empty).toList) = true)
    (hown : wr.ownsRow B 4 1 (.slice (some ⟨B, 0, none⟩) ss.length ss.length) ss.length (((flagsTo ss j).set j true).map Value.bool)) :
    (wr.setCell ⟨B, j, none⟩ (.bool false)).ownsRow B 4 1 (.slice (some ⟨B, 0, none⟩) ss.length ss.length) ss.length ((flagsTo ss (j + 1)).map Value.bool) := by
  have hst := (hown.stored j (.bool false)).1
  rw [← List.map_set, List.set_set] at hst
  rw [← flagsTo_succ ss j hlt, lastB_false hjk hk h]
  exact hst
theorem step_true {ss : List ByteArray} {j B : Nat} {wr : World} (hlt : j < ss.length) (h : again ss j ss.length = false)
    (hown : wr.ownsRow B 4 1 (.slice (some ⟨B, 0, none⟩) ss.length ss.length) ss.length (((flagsTo ss j).set j true).map Value.bool)) :
    wr.ownsRow B 4 1 (.slice (some ⟨B, 0, none⟩) ss.length ss.length) ss.length ((flagsTo ss (j + 1)).map Value.bool) := by
  rw [← flagsTo_succ ss j hlt, lastB_true h]
  exact hown
set_option maxHeartbeats 400000 in
theorem lastFlags (a : Option Addr) (ss : List ByteArray) (cap : Nat) (w : World) (hs : Strs w a ss) (hn : ss.length ≤ 4096) :
    Calls Try.prog 19 #[.slice a ss.length cap] w fun e w' => e = .returned (.slice (some ⟨w.heap.size, 0, none⟩) ss.length ss.length) ∧
      w'.ownsRow w.heap.size 4 1 (.slice (some ⟨w.heap.size, 0, none⟩) ss.length ss.length) ss.length ((flagsTo ss ss.length).map Value.bool) ∧ Below w.heap.size w w' := by
  obtain ⟨i0, hi, hz0, hz1, hz2⟩ := info_parts Try.info4
  go_enter Try.func19, Try.ntmps19
  go_wp2_with (at_make; refine wpList_make_full _ rfl _ _ 36 rfl w.heap.size 4 i0 (.bool false) 1 Try.underlying36 hi hz0 hz1 .i64 .i64 _ _ ss.length rfl rfl rfl rfl (by rw [hz2]; omega) (by unfold maxLen; omega) (Nat.le_refl _) ?_; intro w1 hown1 hgrow1)
  go_loopw [4] (fun i wr => ∃ j : Nat, j ≤ ss.length ∧ i = .int .i64 j ∧ wr.ownsRow w.heap.size 4 1 (.slice (some ⟨w.heap.size, 0, none⟩) ss.length ss.length) ss.length ((flagsTo ss j).map Value.bool) ∧ Below w.heap.size w wr)
    (fun i _ => ss.length - (intOf i).toNat)
  case atStart => exact ⟨0, Nat.zero_le _, rfl, flagsTo_zero ss ▸ hown1, (Below.refl _ _).grown hgrow1 (Nat.le_refl _) (fun j hj => by cases hj)⟩
  case round =>
    obtain ⟨j, hj, rfl, hown, hb⟩ := hrel
    by_cases hlt : j < ss.length
    · have hcell := hown.cellAt j (by omega)
      have hfr := hown.frozenAt j
      have hst := hown.stored j (.bool true)
      have hcell2 : wr.cell? ⟨w.heap.size, j, none⟩ = some (.bool false) := by
        rw [hcell]; simp [flagsTo, hlt]
      clear hcell
      go_wp2
      obtain ⟨hst1, hst2⟩ := hst
      have hb2 : Below w.heap.size w (wr.setCell ⟨w.heap.size, j, none⟩ (.bool true)) := hb.setCell (Nat.le_refl _) _
      rw [← List.map_set] at hst1
      clear hown hfr hst2 hb hcell2
      obtain ⟨wo, rfl⟩ : ∃ wo : World, wo = wr := ⟨_, rfl⟩
      go_loopw [5] (fun i wr => ∃ k : Nat, j < k ∧ k ≤ ss.length ∧ i = .int .i64 k ∧ again ss j k = false ∧ wr.ownsRow w.heap.size 4 1 (.slice (some ⟨w.heap.size, 0, none⟩) ss.length ss.length) ss.length (((flagsTo ss j).set j true).map Value.bool) ∧ Below w.heap.size w wr)
        (fun i _ => ss.length - (intOf i).toNat)
      case atStart => exact ⟨j + 1, by omega, by omega, by go_num, again_start ss j, hst1, hb2⟩
      case round =>
        obtain ⟨k, hjk, hk, rfl, hag, hown, hb⟩ := hrel
        by_cases hkt : k < ss.length
        · obtain ⟨b, off, rfl, hc⟩ := hs.at hlt
          have hbl : b < w.heap.size := World.block_lt_of_cell? w _ (hc j hlt)
          obtain ⟨x, hx⟩ : ∃ x, x = ss.getD j ByteArray.empty := ⟨_, rfl⟩
          obtain ⟨y, hy⟩ : ∃ y, y = ss.getD k ByteArray.empty := ⟨_, rfl⟩
          have hcj : wr.cell? ⟨b, off + j, none⟩ = some (.string x) := by rw [hb.cell (by exact hbl), hx]; exact hc j hlt
          have hck : wr.cell? ⟨b, off + k, none⟩ = some (.string y) := by rw [hb.cell (by exact hbl), hy]; exact hc k hkt
          have Hx : Hid (x = ss.getD j ByteArray.empty) := hx
          have Hy : Hid (y = ss.getD k ByteArray.empty) := hy
          have hfr := hown.frozenAt j
          have hcb : wr.cell? ⟨w.heap.size, j, none⟩ = some (.bool true) := by
            rw [hown.cellAt j (by omega)]; simp [flagsTo, hlt]
          have HA : Hid (again ss j k = false) := hag
          clear hx hy hc hs hst1 hb2 hag
          by_cases heq : (y.toList == x.toList) = true
          · go_wp2
            go_quiet (fail)
            go_wp2
            go_light
            exact ⟨⟨j + 1, by omega, by go_num, step_false hlt hjk hkt (by rw [← Hx.out, ← Hy.out]; exact heq) (ownsRow_drewN hown nq), below_setN hb (Nat.le_refl _) nq⟩, by simp [intOf]; omega⟩
          · have heq' : (y.toList == x.toList) = false := by simpa using heq
            go_wp2
            go_quiet (fail)
            go_wp2
            go_light
            exact ⟨⟨k + 1, by omega, by omega, by go_num, again_step HA.out (by unfold nm; rw [← Hx.out, ← Hy.out]; exact heq'), ownsRow_drewN hown nq, below_drewN hb nq⟩, by simp [intOf]; omega⟩
        · go_wp2
          have hkk : k = ss.length := by omega
          subst hkk
          go_light
          exact ⟨⟨j + 1, by omega, by go_num, step_true hlt hag hown, hb⟩, by simp [intOf]; omega⟩
    · go_wp2
      go_ret
      have : j = ss.length := by omega
      subst this
      exact ⟨rfl, hown, hb⟩

/-- How many of the first k satisfy p. -/
def cntTo (p : Nat → Bool) : Nat → Nat
  | 0 => 0
  | k + 1 => cntTo p k + (if p k = true then 1 else 0)
theorem cntTo_le (p : Nat → Bool) (k : Nat) : cntTo p k ≤ k := by
  induction k with
  | zero => simp [cntTo]
  | succ k ih => simp only [cntTo]; split <;> omega
theorem cntTo_yes {p : Nat → Bool} {k : Nat} (h : p k = true) : cntTo p (k + 1) = cntTo p k + 1 := by simp [cntTo, h]
theorem cntTo_no {p : Nat → Bool} {k : Nat} (h : p k = false) : cntTo p (k + 1) = cntTo p k := by simp [cntTo, h]

/-- The flags of the names ss lie from the head of block fb on. -/
def Flags (w : World) (fb : Nat) (ss : List ByteArray) : Prop := ∀ j, j < ss.length → w.cell? ⟨fb, j, none⟩ = some (.bool (lastB ss j))
theorem Flags.of_row {w : World} {base : Nat} {fb : Nat} {ss : List ByteArray} {cap : Nat} (h : w.ownsRow base 4 1 (.slice (some ⟨fb, 0, none⟩) ss.length cap) ss.length ((flagsTo ss ss.length).map Value.bool)) : Flags w fb ss := by
  intro j hj
  rw [h.cellAt j (by omega)]
  simp [flagsTo, hj]
theorem Flags.below {w w' : World} {fb : Nat} {ss : List ByteArray} (h : Flags w fb ss) (hb : Below w.heap.size w w') : Flags w' fb ss := by
  intro j hj
  have hc := h j hj
  rw [hb.cell (World.block_lt_of_cell? w _ hc)]
  exact hc
/-- How many distinct names there are. -/
def distinctN (ss : List ByteArray) : Nat := cntTo (lastB ss) ss.length
/-- How many distinct names are smaller than q. -/
def rankN (ss : List ByteArray) (q : List UInt8) : Nat := cntTo (fun j => lastB ss j && Op.bytesLess (nm ss j) q) ss.length
theorem ret_nat {a b : Int} (h : a = b) : Ending.returned (.int .i64 a) = .returned (.int .i64 b) := by rw [h]

set_option maxHeartbeats 400000 in
theorem distinct_any (fb : Nat) (ss : List ByteArray) (cap : Nat) (w : World) (hf : Flags w fb ss) (hn : ss.length ≤ 4096) :
    Calls Try.prog 20 #[.slice (some ⟨fb, 0, none⟩) ss.length cap] w fun e w' => e = .returned (.int .i64 (distinctN ss)) ∧ w' = w := by
  go_enter Try.func20, Try.ntmps20
  go_wp2
  go_loop [3, 4] (fun n i => ∃ k : Nat, k ≤ ss.length ∧ i = .int .i64 k ∧ n = .int .i64 (cntTo (lastB ss) k)) (fun _ i => ss.length - (intOf i).toNat)
  case atStart => exact ⟨0, Nat.zero_le _, rfl, rfl⟩
  case round =>
    obtain ⟨k, hk, rfl, rfl⟩ := hrel
    have hle := cntTo_le (lastB ss) k
    by_cases hlt : k < ss.length
    · have hc := hf k hlt
      cases hv : lastB ss k with
      | true =>
        rw [hv] at hc
        have HY : Hid (cntTo (lastB ss) (k + 1) = cntTo (lastB ss) k + 1) := cntTo_yes hv
        clear hv
        go_wp2
        go_round
        case rel => exact ⟨k + 1, by omega, by go_num, by rw [HY.out]; go_num⟩
        case measure => simp [intOf]; omega
      | false =>
        rw [hv] at hc
        have HY : Hid (cntTo (lastB ss) (k + 1) = cntTo (lastB ss) k) := cntTo_no hv
        clear hv
        go_wp2
        go_round
        case rel => exact ⟨k + 1, by omega, by go_num, by rw [HY.out]⟩
        case measure => simp [intOf]; omega
    · have hkk : k = ss.length := by omega
      subst hkk
      go_wp2
      go_ret
      exact ⟨rfl, rfl⟩

set_option maxHeartbeats 400000 in
theorem rank_any (a : Option Addr) (fb : Nat) (ss : List ByteArray) (q : ByteArray) (c1 c2 : Nat) (w : World) (hs : Strs w a ss) (hf : Flags w fb ss) (hn : ss.length ≤ 4096) :
    Calls Try.prog 30 #[.slice a ss.length c1, .slice (some ⟨fb, 0, none⟩) ss.length c2, .string q] w fun e w' => e = .returned (.int .i64 (rankN ss q.toList)) ∧ w' = w := by
  go_enter Try.func30, Try.ntmps30
  go_wp2
  go_loop [7, 8] (fun n i => ∃ k : Nat, k ≤ ss.length ∧ i = .int .i64 k ∧ n = .int .i64 (cntTo (fun j => lastB ss j && Op.bytesLess (nm ss j) q.toList) k)) (fun _ i => ss.length - (intOf i).toNat)
  case atStart => exact ⟨0, Nat.zero_le _, rfl, rfl⟩
  case round =>
    obtain ⟨k, hk, rfl, rfl⟩ := hrel
    have hle := cntTo_le (fun j => lastB ss j && Op.bytesLess (nm ss j) q.toList) k
    by_cases hlt : k < ss.length
    · have hc := hf k hlt
      obtain ⟨b, off, rfl, hcs⟩ := hs.at hlt
      obtain ⟨x, hx⟩ : ∃ x, x = ss.getD k ByteArray.empty := ⟨_, rfl⟩
      have hck := hcs k hlt
      rw [← hx] at hck
      have hnm : nm ss k = x.toList := by rw [hx]; rfl
      obtain ⟨c, hcdef⟩ : ∃ c, c = cntTo (fun j => lastB ss j && Op.bytesLess (nm ss j) q.toList) k := ⟨_, rfl⟩
      obtain ⟨c', hcdef'⟩ : ∃ c, c = cntTo (fun j => lastB ss j && Op.bytesLess (nm ss j) q.toList) (k + 1) := ⟨_, rfl⟩
      rw [← hcdef] at hle ⊢
      clear hx hcs hs hf
      cases hv : lastB ss k with
      | true =>
        cases hl : Op.bytesLess x.toList q.toList with
        | true =>
          rw [hv] at hc
          have HY : Hid (c' = c + 1) := by rw [hcdef', hcdef]; exact cntTo_yes (by simp [hv, hnm, hl])
          have HD : Hid (c' = cntTo (fun j => lastB ss j && Op.bytesLess (nm ss j) q.toList) (k + 1)) := hcdef'
          clear hv hnm hcdef hcdef'
          go_wp2
          exact ⟨⟨k + 1, by omega, by go_num, by rw [← HD.out, HY.out]; go_num⟩, by simp [intOf]; omega⟩
        | false =>
          rw [hv] at hc
          have HY : Hid (c' = c) := by rw [hcdef', hcdef]; exact cntTo_no (by simp [hnm, hl])
          have HD : Hid (c' = cntTo (fun j => lastB ss j && Op.bytesLess (nm ss j) q.toList) (k + 1)) := hcdef'
          clear hv hnm hcdef hcdef'
          go_wp2
          exact ⟨⟨k + 1, by omega, by go_num, by rw [← HD.out, HY.out]⟩, by simp [intOf]; omega⟩
      | false =>
        rw [hv] at hc
        have HY : Hid (c' = c) := by rw [hcdef', hcdef]; exact cntTo_no (by simp [hv])
        have HD : Hid (c' = cntTo (fun j => lastB ss j && Op.bytesLess (nm ss j) q.toList) (k + 1)) := hcdef'
        clear hv hnm hcdef hcdef'
        go_wp2
        exact ⟨⟨k + 1, by omega, by go_num, by rw [← HD.out, HY.out]⟩, by simp [intOf]; omega⟩
    · have hkk : k = ss.length := by omega
      subst hkk
      go_wp2
      go_ret
      exact ⟨rfl, rfl⟩

/-- Is one of the names q? -/
def holdsTo (ss : List ByteArray) (q : List UInt8) : Nat → Bool
  | 0 => false
  | k + 1 => holdsTo ss q k || (nm ss k == q)
theorem holdsTo_iff (ss : List ByteArray) (q : List UInt8) (k : Nat) : holdsTo ss q k = true ↔ ∃ i, i < k ∧ nm ss i = q := by
  induction k with
  | zero => simp [holdsTo]
  | succ k ih =>
    simp only [holdsTo, Bool.or_eq_true, beq_iff_eq, ih]
    constructor
    · rintro (⟨i, h1, h2⟩ | h)
      · exact ⟨i, by omega, h2⟩
      · exact ⟨k, by omega, h⟩
    · rintro ⟨i, h1, h2⟩
      by_cases hik : i = k
      · subst hik; exact Or.inr h2
      · exact Or.inl ⟨i, by omega, h2⟩
theorem ret_bool {a b : Bool} (h : a = b) : Ending.returned (.bool a) = .returned (.bool b) := by rw [h]

set_option maxHeartbeats 400000 in
theorem holds_any (a : Option Addr) (ss : List ByteArray) (q : ByteArray) (c1 : Nat) (w : World) (hs : Strs w a ss) (hn : ss.length ≤ 4096) :
    Calls Try.prog 27 #[.slice a ss.length c1, .string q] w fun e w' => e = .returned (.bool (holdsTo ss q.toList ss.length)) ∧ w' = w := by
  go_enter Try.func27, Try.ntmps27
  go_wp2
  go_loop [5] (fun i => ∃ k : Nat, k ≤ ss.length ∧ i = .int .i64 k ∧ Hid (holdsTo ss q.toList k = false)) (fun i => ss.length - (intOf i).toNat)
  case atStart => exact ⟨0, Nat.zero_le _, rfl, rfl⟩
  case round =>
    obtain ⟨k, hk, rfl, HN⟩ := hrel
    by_cases hlt : k < ss.length
    · obtain ⟨b, off, rfl, hcs⟩ := hs.at hlt
      obtain ⟨x, hx⟩ : ∃ x, x = ss.getD k ByteArray.empty := ⟨_, rfl⟩
      have hck := hcs k hlt
      rw [← hx] at hck
      have Hnm : Hid (nm ss k = x.toList) := by rw [hx]; rfl
      clear hx hcs hs
      cases hl : (x.toList == q.toList) with
      | true =>
        go_wp2
        go_ret
        exact ⟨ret_bool ((holdsTo_iff _ _ _).2 ⟨k, hlt, by rw [Hnm.out]; simpa using hl⟩).symm, rfl⟩
      | false =>
        go_wp2
        exact ⟨⟨k + 1, by omega, by go_num, by unfold Hid; simp only [holdsTo, HN.out, Hnm.out, hl]; rfl⟩, by simp [intOf]; omega⟩
    · have hkk : k = ss.length := by omega
      subst hkk
      go_wp2
      go_ret
      exact ⟨ret_bool HN.out.symm, rfl⟩

theorem none_step {P : Nat → Prop} {k : Nat} (h : ∀ j, j < k → ¬ P j) (hk : ¬ P k) : Hid (∀ j, j < k + 1 → ¬ P j) := by
  intro j hj
  by_cases e : j = k
  · subst e; exact hk
  · exact h j (by omega)

set_option maxHeartbeats 400000 in
theorem nameAtRank_any (a : Option Addr) (fb : Nat) (ss : List ByteArray) (r : Int) (c1 c2 : Nat) (w : World) (hs : Strs w a ss) (hf : Flags w fb ss) (hn : ss.length ≤ 4096) (hex : Hid (∃ j, j < ss.length ∧ lastB ss j = true ∧ (rankN ss (nm ss j) : Int) = r)) :
    Calls Try.prog 23 #[.slice a ss.length c1, .slice (some ⟨fb, 0, none⟩) ss.length c2, .int .i64 r] w fun e w' => (∃ j, j < ss.length ∧ lastB ss j = true ∧ (rankN ss (nm ss j) : Int) = r ∧ e = .returned (.string (ss.getD j ByteArray.empty))) ∧ w' = w := by
  go_enter Try.func23, Try.ntmps23
  go_wp2
  go_loop [7] (fun i => ∃ k : Nat, k ≤ ss.length ∧ i = .int .i64 k ∧ Hid (∀ j, j < k → ¬ (lastB ss j = true ∧ (rankN ss (nm ss j) : Int) = r))) (fun i => ss.length - (intOf i).toNat)
  case atStart => exact ⟨0, Nat.zero_le _, rfl, fun j hj => absurd hj (Nat.not_lt_zero _)⟩
  case round =>
    obtain ⟨k, hk, rfl, HN⟩ := hrel
    by_cases hlt : k < ss.length
    · have hc := hf k hlt
      obtain ⟨b, off, ha, hcs⟩ := hs.at hlt
      obtain ⟨x, hx⟩ : ∃ x, x = ss.getD k ByteArray.empty := ⟨_, rfl⟩
      have hck := hcs k hlt
      rw [← hx] at hck
      have Hnm : Hid (x = ss.getD k ByteArray.empty) := hx
      subst ha
      clear hx hcs
      cases hv : lastB ss k with
      | true =>
        rw [hv] at hc
        have HV : Hid (lastB ss k = true) := hv
        clear hv
        by_cases hr : (rankN ss x.toList : Int) = r
        · have hr' : ((rankN ss x.toList : Int) == r) = true := by simpa using hr
          have HR : Hid ((rankN ss x.toList : Int) = r) := hr
          clear hr
          go_wp2_with (go_at_call 30; refine (rank_any _ _ _ _ _ _ _ hs hf hn).mono ?_; rintro e w' ⟨rfl, rfl⟩)
          go_ret
          exact ⟨⟨k, hlt, HV.out, by unfold nm; rw [← Hnm.out]; exact HR.out, by rw [← Hnm.out]; rfl⟩, rfl⟩
        · have hr' : ((rankN ss x.toList : Int) == r) = false := by simpa using hr
          have HR : Hid (¬ (rankN ss x.toList : Int) = r) := hr
          clear hr
          go_wp2_with (go_at_call 30; refine (rank_any _ _ _ _ _ _ _ hs hf hn).mono ?_; rintro e w' ⟨rfl, rfl⟩)
          exact ⟨⟨k + 1, by omega, by go_num, none_step HN.out (fun h => HR.out (by rw [Hnm.out]; exact h.2))⟩, by simp [intOf]; omega⟩
      | false =>
        rw [hv] at hc
        have HV : Hid (lastB ss k = false) := hv
        clear hv
        go_wp2_with fail
        exact ⟨⟨k + 1, by omega, by go_num, none_step HN.out (fun h => by rw [HV.out] at h; exact absurd h.1 (by decide))⟩, by simp [intOf]; omega⟩
    · have hkk : k = ss.length := by omega
      subst hkk
      obtain ⟨j, h1, h2, h3⟩ := hex.out
      exact absurd ⟨h2, h3⟩ (HN.out j h1)
end Go.Proofs.Qxb6613624a
