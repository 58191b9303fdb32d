/-
  slices.Index, slices.Contains at lists of definitions (a level's pointer and an index), BY THEIR CONTRACTS: whether the list holds the pair.
-/
import Derived.Test.Qxb6613624aOver
import Derived.LaidEql
import Derived.Laws.StructEq
import Derived.RegionTactic
namespace Go.Proofs.Qxb6613624a
open Go.RowKit Go.Maps
def LvBlk (w : World) (a : Nat) : Prop := ∃ cs, w.heap[a]? = some (.cells cs 79 (0, 0))
theorem lv_alloc {w : World} {a : Nat} (h : LvBlk w a) (o : Obj) : LvBlk (w.alloc o) a := by
  obtain ⟨cs, hc⟩ := h
  exact ⟨cs, by rw [Below.heap_alloc _ _ _ (Array.getElem?_eq_some_iff.1 hc).1]; exact hc⟩
theorem lv_below {w w' : World} {a : Nat} (h : LvBlk w a) (hb : Below w.heap.size w w') : LvBlk w' a := by
  obtain ⟨cs, hc⟩ := h
  exact ⟨cs, by rw [hb.block a (Array.getElem?_eq_some_iff.1 hc).1]; exact hc⟩
theorem cell_below {w w' : World} {a : Addr} {v : Value} (h : w.cell? a = some v) (hb : Below w.heap.size w w') : w'.cell? a = some v := by
  rw [hb.cell (World.block_lt_of_cell? w a h)]; exact h
theorem eq58 (d : Nat) (a b : Nat) (w : World) (ha : LvBlk w a) (hb : LvBlk w b) : (Op.equalIn (d + 1) 58 (.pointer (some ⟨a, 0, none⟩)) (.pointer (some ⟨b, 0, none⟩))).run Try.prog w = .ok (decide (a = b)) w := by
  by_cases h : a = b
  · subst h
    simp [Op.equalIn, run_underlying Try.underlying58, Try.sizeOf79, run_sameAddr_same]
  · obtain ⟨ca, ha⟩ := ha
    obtain ⟨cb, hb⟩ := hb
    have hne : (⟨a, 0, none⟩ : Addr) ≠ ⟨b, 0, none⟩ := fun e => h (by cases e; rfl)
    have := run_sameAddr_other (P := Try.prog) w hne ha hb
    simp [Op.equalIn, run_underlying Try.underlying58, Try.sizeOf79, this, h]
theorem part58 (x y : Value) (w : World) : (part 58 #[x, y] 0).run Try.prog w = .ok x w := by kernel_rfl
theorem part3 (x y : Value) (w : World) : (part 3 #[x, y] 1).run Try.prog w = .ok y w := by kernel_rfl
theorem eq3 (d : Nat) (i j : Int) (w : World) : (Op.equalIn (d + 1) 3 (.int .i64 i) (.int .i64 j)).run Try.prog w = .ok (i == j) w := by
  simp [Op.equalIn, run_underlying Try.underlying3]
theorem eq66 (a b : Nat) (i j : Int) (w : World) (ha : LvBlk w a) (hb : LvBlk w b) :
    (binOp .eql 66 (.agg #[.pointer (some ⟨a, 0, none⟩), .int .i64 i]) (.agg #[.pointer (some ⟨b, 0, none⟩), .int .i64 j])).run Try.prog w = .ok (.bool (decide (a = b ∧ i = j))) w := by
  have h1 := eq58 9998 a b w ha hb
  have hs := run_equalIn_struct (P := Try.prog) w 9999 66 #[.pointer (some ⟨a, 0, none⟩), .int .i64 i] #[.pointer (some ⟨b, 0, none⟩), .int .i64 j] (by kernel_rfl) (by kernel_rfl)
  simp only [Program.fieldsOf, Try.underlying66, Op.eqFields] at hs
  have h2 := eq3 9998 i j w
  simp only [binOp]
  simp [Op.equal, Op.maxDepth, hs, part58, part3, h1, h2]
  by_cases e1 : a = b <;> by_cases e2 : i = j <;> simp [e1, e2]

/-- A list of definitions (a level's block, an index) from the head of block b on. -/
def DefRow (w : World) (b : Nat) (ds : List (Nat × Nat)) : Prop := ∀ k, k < ds.length → w.cell? ⟨b, k * 2, none⟩ = some (.pointer (some ⟨(ds.getD k (0, 0)).1, 0, none⟩)) ∧ w.cell? ⟨b, k * 2 + 1, none⟩ = some (.int .i64 (ds.getD k (0, 0)).2)
theorem DefRow.below {w w' : World} {b : Nat} {ds : List (Nat × Nat)} (h : DefRow w b ds) (hb : Below w.heap.size w w') : DefRow w' b ds := fun k hk => ⟨cell_below (h k hk).1 hb, cell_below (h k hk).2 hb⟩
/-- Does one of the first k equal p? -/
def hasTo (ds : List (Nat × Nat)) (p : Nat × Nat) : Nat → Bool
  | 0 => false
  | k + 1 => hasTo ds p k || decide (p = ds.getD k (0, 0))
theorem has_of {ds : List (Nat × Nat)} {p : Nat × Nat} {k : Nat} : ∀ {n : Nat}, k < n → ds.getD k (0, 0) = p → hasTo ds p n = true
  | 0, h, _ => by omega
  | n + 1, h, e => by
    unfold hasTo
    by_cases hkn : k = n
    · subst hkn
      rw [e]
      simp
    · rw [has_of (by omega) e]
      rfl
def sgnIdx (b : Bool) (e : Ending) : Prop := ∃ z : Int, e = .returned (.int .i64 z) ∧ decide (0 ≤ z) = b

set_option maxRecDepth 100000 in
set_option maxHeartbeats 1000000 in
theorem idx_any (b cap : Nat) (ds : List (Nat × Nat)) (a i : Nat) (w : World) (hn : ds.length ≤ 1000000) (hR : DefRow w b ds) (hB : Hid (∀ d ∈ ds, LvBlk w d.1)) (hA : Hid (LvBlk w a)) :
    Calls Try.prog 47 #[.slice (some ⟨b, 0, none⟩) ds.length cap, .agg #[.pointer (some ⟨a, 0, none⟩), .int .i64 i]] w fun e w' => sgnIdx (hasTo ds (a, i) ds.length) e ∧ Below w.heap.size w w' := by
  go_enter Try.func47, Try.ntmps47
  go_wp2
  go_loopw [8] (fun v wr => ∃ k : Nat, k ≤ ds.length ∧ v = .int .i64 k ∧ Hid (hasTo ds (a, i) k = false) ∧ Below (w.heap.size + 1) (w.alloc (.cells #[.pointer (some ⟨a, 0, none⟩), .int .i64 i] 66)) wr) (fun v _ => ds.length - (intOf v).toNat)
  case atStart => exact ⟨0, Nat.zero_le _, rfl, rfl, Below.refl _ _⟩
  case round =>
    obtain ⟨k, hk, rfl, HN, hb⟩ := hrel
    have hbw : Below w.heap.size w wr := ((Below.refl _ w).alloc (Nat.le_refl _) _).trans (hb.mono (by omega))
    by_cases hlt : k < ds.length
    · obtain ⟨q1, q2⟩ := hR k hlt
      obtain ⟨p1, hp1⟩ : ∃ p1, p1 = (ds.getD k (0, 0)).1 := ⟨_, rfl⟩
      obtain ⟨p2, hp2⟩ : ∃ p2, p2 = (ds.getD k (0, 0)).2 := ⟨_, rfl⟩
      rw [← hp1] at q1
      rw [← hp2] at q2
      have q1' := cell_below q1 hbw
      have q2' := cell_below q2 hbw
      have r1 : wr.cell? ⟨w.heap.size, 0, none⟩ = some (.pointer (some ⟨a, 0, none⟩)) := by rw [hb.cell (Nat.lt_succ_self _)]; simp
      have r2 : wr.cell? ⟨w.heap.size, 1, none⟩ = some (.int .i64 i) := by rw [hb.cell (Nat.lt_succ_self _)]; simp
      have hb1 : LvBlk w p1 := by
        rw [hp1]; refine hB.out _ ?_; rw [List.getD, List.getElem?_eq_getElem hlt]; exact List.getElem_mem hlt
      have heq : (Op.equalIn 9999 58 (.pointer (some ⟨a, 0, none⟩)) (.pointer (some ⟨p1, 0, none⟩))).run Try.prog wr.drew = .ok (decide (a = p1)) wr.drew :=
        eq58 9998 a p1 _ (lv_below hA.out hbw.drew) (lv_below hb1 hbw.drew)
      have HP : Hid (ds.getD k (0, 0) = (p1, p2)) := by rw [hp1, hp2]; rfl
      clear hp1 hp2 q1 q2 hb1
      by_cases hc : a = p1 ∧ i = p2
      · obtain ⟨e1, e2⟩ := hc
        subst e1 e2
        have HT : Hid (hasTo ds (a, i) ds.length = true) := has_of hlt HP.out
        simp only [decide_true] at heq
        go_wp2
        go_region
        go_wp2
        go_ret
        exact ⟨⟨_, rfl, by rw [HT.out]; simp⟩, hbw.drew⟩
      · have HF : Hid (hasTo ds (a, i) (k + 1) = false) := by
          unfold Hid hasTo
          rw [HN.out, HP.out]
          simpa [Prod.ext_iff] using hc
        by_cases e1 : a = p1
        · have e2 : ((i : Int) = (p2 : Int)) ↔ False := by
            constructor
            · intro h; exact hc ⟨e1, by omega⟩
            · intro h; exact h.elim
          subst e1
          simp only [decide_true] at heq
          clear hc
          go_wp2
          go_region
          go_wp2
          exact ⟨⟨k + 1, by omega, by go_num, HF, hb.drew⟩, by simp [intOf]; omega⟩
        · have e1' : decide (a = p1) = false := by simpa using e1
          rw [e1'] at heq
          clear hc e1 e1'
          go_wp2
          go_region
          go_wp2
          exact ⟨⟨k + 1, by omega, by go_num, HF, hb.drew⟩, by simp [intOf]; omega⟩
    · have hkk : k = ds.length := by omega
      subst hkk
      go_wp2
      go_ret
      exact ⟨⟨_, rfl, by rw [HN.out]; rfl⟩, hbw⟩

set_option maxRecDepth 100000 in
set_option maxHeartbeats 1000000 in
theorem contains_any (b cap : Nat) (ds : List (Nat × Nat)) (a i : Nat) (w : World) (hn : ds.length ≤ 1000000) (hR : DefRow w b ds) (hB : Hid (∀ d ∈ ds, LvBlk w d.1)) (hA : Hid (LvBlk w a)) :
    Calls Try.prog 42 #[.slice (some ⟨b, 0, none⟩) ds.length cap, .agg #[.pointer (some ⟨a, 0, none⟩), .int .i64 i]] w fun e w' => e = .returned (.bool (hasTo ds (a, i) ds.length)) ∧ Below w.heap.size w w' := by
  have hb0 := (Below.refl _ w).alloc (Nat.le_refl _) (.cells #[.pointer (some ⟨a, 0, none⟩), .int .i64 i] 66)
  have hR1 := hR.below hb0
  have hB1 : Hid (∀ d ∈ ds, LvBlk (w.alloc (.cells #[.pointer (some ⟨a, 0, none⟩), .int .i64 i] 66)) d.1) := fun d hd => lv_below (hB.out d hd) hb0
  have hA1 : Hid (LvBlk (w.alloc (.cells #[.pointer (some ⟨a, 0, none⟩), .int .i64 i] 66)) a) := lv_below hA.out hb0
  have hs : (w.alloc (.cells #[.pointer (some ⟨a, 0, none⟩), .int .i64 i] 66)).heap.size = w.heap.size + 1 := by simp
  have HS : Hid ((w.alloc (.cells #[.pointer (some ⟨a, 0, none⟩), .int .i64 i] 66)).heap.size = w.heap.size + 1) := hs
  clear hs
  go_enter Try.func42, Try.ntmps42
  go_wp2_with fail
  refine (idx_any b cap ds a i _ hn hR1 hB1 hA1).mono ?_
  rintro e w1 ⟨⟨z, rfl, hz⟩, hb1⟩
  have HZ : Hid (decide (0 ≤ z) = hasTo ds (a, i) ds.length) := hz
  clear hz
  go_wp2
  go_ret
  exact ⟨by rw [← HZ.out]; rfl, hb0.trans (hb1.mono (by rw [HS.out]; omega))⟩
end Go.Proofs.Qxb6613624a
