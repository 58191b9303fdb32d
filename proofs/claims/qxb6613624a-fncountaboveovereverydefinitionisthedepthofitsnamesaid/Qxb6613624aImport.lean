/-
  (*Scope).Import BY ITS CONTRACT: of a map with entries it makes a scope whose level holds one definition a key, the keys in order, each with its value's text; of an empty map it hands back the scope it was called on. Nothing that lay before has turned.
-/
import Derived.Test.Qxb6613624aMap
import Derived.Maps.AppendAt
namespace Go.Proofs.Qxb6613624a
open Go.RowKit Go.Maps
theorem Try.info74 : (Try.prog.info? 74).map (fun i => (i.zero, i.size, i.bytes)) = some (some (.agg #[.string ⟨#[]⟩, .string ⟨#[]⟩, .slice none 0 0, .bool false]), 4, 64) := by kernel_rfl
theorem Try.info9 : (Try.prog.info? 9).map (fun i => (i.zero, i.size, i.bytes)) = some (some (.string ⟨#[]⟩), 1, 16) := by kernel_rfl
/-- A definition's four cells. -/
def defCells (D : DataW Unit) (x : List UInt8) : List Value := [encStr x, .string (txt D x), .slice none 0 0, .bool false]
def defsRow (D : DataW Unit) (l : List (List UInt8)) : List Value := l.flatMap (defCells D)
theorem below_grown {w w' : World} (hb : Below w.heap.size w w') : w.grownBy w' none := ⟨hb.os, hb.tape, hb.output, hb.size, fun k hk _ => hb.block k hk⟩

/-- What holds ahead of round k of Import's loop. -/
structure Inv (D : DataW Unit) (w : World) (mb nn g2 g3 c3 : Nat) (wr : World) (k : Nat) : Prop where
  own : wr.ownsMap Try.prog 9 impR mb nn D
  defs : wr.ownsRow w.heap.size 74 4 (.slice (some ⟨w.heap.size, 0, none⟩) k (Maps.size D)) k (defsRow D ((keysOf D).take k))
  imps : ∃ xs, wr.ownsRow w.heap.size 9 1 (.slice (some ⟨g2, 0, none⟩) k (Maps.size D)) k xs
  keys : wr.ownsRow w.heap.size 9 1 (.slice (some ⟨g3, 0, none⟩) (Maps.size D) c3) (Maps.size D) ((keysOf D).map encStr)
  below : Below w.heap.size w wr

theorem string_any (s : ByteArray) (w : World) : Calls Try.prog 40 #[.string s] w fun e w' => e = .returned (.agg #[.string s, .slice none 0 0, .bool false]) ∧ w' = w.alloc (.cells #[.string s, .slice none 0 0, .bool false] 56) := by
  go_enter Try.func40, Try.ntmps40
  go_wp2
  exact bodyPost_ret (v := .agg #[.string s, .slice none 0 0, .bool false]) (by simp [results, Try.results40, go_sem]) rfl ⟨rfl, rfl⟩
theorem news4 (w : World) (o : Obj) (a b c d : Value) (t : TypeId) : ∀ j u, [a, b, c, d][j]? = some u → ((w.alloc o).alloc (.cells #[a, b, c, d] t)).cell? ((⟨w.heap.size + 1, 0, none⟩ : Addr).add j) = some u := by
  intro j u hj
  have hb : ((w.alloc o).alloc (.cells #[a, b, c, d] t)).heap[w.heap.size + 1]? = some (.cells #[a, b, c, d] t (0, 0)) := by
    have := heap_alloc_new (w.alloc o) (.cells #[a, b, c, d] t (0, 0))
    simpa using this
  rw [Addr.add_lit, cell_of_row _ _ _ _ _ _ hb, Nat.zero_add]
  simpa using hj
theorem one4 (a b : ByteArray) : ∀ u ∈ [Value.string a, .string b, .slice none 0 0, .bool false], u.oneCell' = true := by
  intro u hu
  simp at hu
  rcases hu with rfl | rfl | rfl | rfl <;> rfl
theorem one1 (a : ByteArray) : ∀ u ∈ [Value.string a], u.oneCell' = true := by
  intro u hu
  simp at hu
  subst hu
  rfl
theorem field48_0 (a b : ByteArray) (w : World) : (Instr.field 48 (.agg #[.string a, .string b]) 0).run Try.prog w = .ok (.string a) w := by kernel_rfl
theorem field48_1 (a b : ByteArray) (w : World) : (Instr.field 48 (.agg #[.string a, .string b]) 1).run Try.prog w = .ok (.string b) w := by kernel_rfl

theorem row_base {w : World} {base base' : Nat} {e : TypeId} {size : Nat} {v : Value} {n : Nat} {xs : List Value} (h : w.ownsRow base e size v n xs) (hb : base' ≤ base) : w.ownsRow base' e size v n xs := by
  refine ⟨h.1, ?_⟩
  rcases h.2 with h' | ⟨g', cap', cur, h1, h2, h3⟩
  · exact Or.inl h'
  · exact Or.inr ⟨g', cap', cur, h1, by omega, h3⟩

theorem inv_start {D : DataW Unit} {w w1 w2 w3 : World} {mb nn g3 c3 : Nat} (hg1 : w.grownBy w1 none) (hg2 : w1.grownBy w2 none) (hown2 : w2.ownsMap Try.prog 9 impR mb nn D)
    (hr1 : w1.ownsRow w.heap.size 74 4 (.slice (some ⟨w.heap.size, 0, none⟩) 0 (Maps.size D)) 0 [])
    (hr2 : w2.ownsRow w.heap.size 9 1 (.slice (some ⟨w1.heap.size, 0, none⟩) 0 (Maps.size D)) 0 [])
    (hr3 : w3.ownsRow w2.heap.size 9 1 (.slice (some ⟨g3, 0, none⟩) (Maps.size D) c3) (Maps.size D) ((keysOf D).map encStr)) (hb3 : Below w2.heap.size w2 w3) :
    Inv D w mb nn w1.heap.size g3 c3 w3 0 := by
  have hgb := below_grown hb3
  have h1 := hg1.size
  have h2 := hg2.size
  refine ⟨hown2.kept hgb (by simp), ?_, ⟨_, hr2.kept hgb (Or.inr (by simp [Value.ownBlock]))⟩, row_base hr3 (by omega), ?_⟩
  · exact (hr1.kept hg2 (Or.inr (by simp [Value.ownBlock]))).kept hgb (Or.inr (by simp [Value.ownBlock]))
  · exact (((Below.refl _ w).grown hg1 (Nat.le_refl _) (fun k hk => by cases hk)).grown hg2 (by omega) (fun k hk => by cases hk)).trans (hb3.mono (by omega))

theorem defsRow_succ (D : DataW Unit) (l : List (List UInt8)) (k : Nat) (hk : k < l.length) : defsRow D (l.take (k + 1)) = defsRow D (l.take k) ++ defCells D (l.getD k []) := by
  rw [List.take_succ_eq_append_getElem hk, defsRow, List.flatMap_append]
  simp [defsRow, List.getD, hk]

theorem inv_step {D : DataW Unit} {w wr w5 w6 : World} {mb nn g2 g3 c3 k : Nat} {s : ByteArray} {o1 o2 o3 : Obj} {ys : List Value} (HI : Inv D w mb nn g2 g3 c3 wr k) (hk : k < Maps.size D) (hmb : mb < w.heap.size) (hg12 : w.heap.size < g2) (hg23 : g2 < g3)
    (hs : s.data.toList = (keysOf D).getD k [])
    (hd5 : w5.ownsRow w.heap.size 74 4 (.slice (some ⟨w.heap.size, 0, none⟩) (k + 1) (Maps.size D)) (k + 1) (defsRow D ((keysOf D).take k) ++ [.string s, .string (txt D s.data.toList), .slice none 0 0, .bool false]))
    (hgr5 : ((wr.alloc o1).alloc o2).grownBy w5 (some w.heap.size))
    (hi6 : w6.ownsRow w.heap.size 9 1 (.slice (some ⟨g2, 0, none⟩) (k + 1) (Maps.size D)) (k + 1) ys) (hgr6 : (w5.alloc o3).grownBy w6 (some g2)) :
    Inv D w mb nn g2 g3 c3 w6 (k + 1) := by
  have hbs := HI.below.size
  have h5 := hgr5.size
  have h6 := hgr6.size
  simp only [World.size_alloc] at h5 h6
  have ee : encStr ((keysOf D).getD k []) = .string s := by rw [← hs]
  refine ⟨?_, ?_, ⟨_, hi6⟩, ?_, ?_⟩
  · exact ((((HI.own.alloc _).alloc _).kept hgr5 (fun e => by simp at e; omega)).alloc _).kept hgr6 (fun e => by simp at e; omega)
  · rw [defsRow_succ D _ k (by rw [keysOf_length]; exact hk)]
    unfold defCells
    rw [ee, ← hs]
    exact (hd5.alloc _).kept hgr6 (Or.inr (fun e => by simp [Value.ownBlock] at e; omega))
  · exact ((((HI.keys.alloc _).alloc _).kept hgr5 (Or.inr (fun e => by simp [Value.ownBlock] at e; omega))).alloc _).kept hgr6 (Or.inr (fun e => by simp [Value.ownBlock] at e; omega))
  · refine (((((HI.below.alloc (by omega) _).alloc (by simp; omega) _).grown hgr5 (by simp; omega) ?_).alloc (by omega) _).grown hgr6 (by simp; omega) ?_)
    · intro j hj; cases hj; exact Nat.le_refl _
    · intro j hj; cases hj; omega

/-- Block sc is a scope over 'up' whose level (block lv) holds the definitions of the keys ks, in their order, from the head of block g on; tx: the text at a key. -/
structure Level (w : World) (sc lv g : Nat) (up : Option Addr) (ks : List (List UInt8)) (tx : List UInt8 → ByteArray) : Prop where
  up0 : w.cell? ⟨sc, 0, none⟩ = some (.pointer up)
  vars : w.cell? ⟨sc, 1, none⟩ = some (.pointer (some ⟨lv, 0, none⟩))
  defs : ∃ cap, w.cell? ⟨lv, 0, none⟩ = some (.iface 51 (.slice (some ⟨g, 0, none⟩) ks.length cap))
  within : w.cell? ⟨lv, 4, none⟩ = some (.pointer up)
  row : ∀ i c, i < ks.length → c < 4 → w.cell? ⟨g, i * 4 + c, none⟩ = [encStr (ks.getD i []), .string (tx (ks.getD i [])), .slice none 0 0, .bool false][c]?
  blk : ∃ cs, w.heap[lv]? = some (.cells cs 79 (0, 0))

theorem Level.below {w w' : World} {sc lv g : Nat} {up : Option Addr} {ks : List (List UInt8)} {tx : List UInt8 → ByteArray} (h : Level w sc lv g up ks tx) (hb : Below w.heap.size w w') : Level w' sc lv g up ks tx := by
  have mv : ∀ {a : Addr} {v : Value}, w.cell? a = some v → w'.cell? a = some v := fun {a v} h => by
    rw [hb.cell (World.block_lt_of_cell? w a h)]; exact h
  refine ⟨mv h.up0, mv h.vars, ?_, mv h.within, ?_, ?_⟩
  rotate_right
  · obtain ⟨cs, hcs⟩ := h.blk
    exact ⟨cs, by rw [hb.block lv (Array.getElem?_eq_some_iff.1 hcs).1]; exact hcs⟩
  · obtain ⟨cap, hc⟩ := h.defs
    exact ⟨cap, mv hc⟩
  · intro i c hi hc
    have hr := h.row i c hi hc
    obtain ⟨v, hv⟩ : ∃ v, [encStr (ks.getD i []), Value.string (tx (ks.getD i [])), .slice none 0 0, .bool false][c]? = some v := by
      match c, hc with
      | 0, _ => exact ⟨_, rfl⟩
      | 1, _ => exact ⟨_, rfl⟩
      | 2, _ => exact ⟨_, rfl⟩
      | 3, _ => exact ⟨_, rfl⟩
    rw [hv] at hr ⊢
    exact mv hr

theorem defsRow_get (D : DataW Unit) : ∀ (l : List (List UInt8)) (i c : Nat), i < l.length → c < 4 → (defsRow D l)[i * 4 + c]? = (defCells D (l.getD i []))[c]?
  | [], i, c, hi, _ => by simp at hi
  | x :: r, 0, c, _, hc => by
    simp only [defsRow, List.flatMap_cons, Nat.zero_mul, Nat.zero_add]
    rw [List.getElem?_append_left (by simp [defCells]; omega)]
    simp
  | x :: r, i + 1, c, hi, hc => by
    have ih := defsRow_get D r i c (by simp at hi; omega) hc
    simp only [defsRow, List.flatMap_cons] at ih ⊢
    rw [List.getElem?_append_right (by simp [defCells]; omega)]
    rw [show (i + 1) * 4 + c - (defCells D x).length = i * 4 + c from by simp [defCells]; omega, ih]
    simp

theorem level_made {D : DataW Unit} {w wr : World} {mb nn g2 g3 c3 : Nat} {p : Option Addr} {a1 a2 a3 : Value} (HI : Inv D w mb nn g2 g3 c3 wr (Maps.size D)) :
    Level ((wr.alloc (.cells #[.iface 51 (.slice (some ⟨w.heap.size, 0, none⟩) (Maps.size D) (Maps.size D)), a1, .bool true, a2, .pointer p, a3] 79)).alloc
      (.cells #[.pointer p, .pointer (some ⟨wr.heap.size, 0, none⟩), .bool false] 60)) (wr.heap.size + 1) wr.heap.size w.heap.size p (keysOf D) (txt D) := by
  have hS : ((wr.alloc (.cells #[.iface 51 (.slice (some ⟨w.heap.size, 0, none⟩) (Maps.size D) (Maps.size D)), a1, .bool true, a2, .pointer p, a3] 79)).alloc
      (.cells #[.pointer p, .pointer (some ⟨wr.heap.size, 0, none⟩), .bool false] 60)).heap[wr.heap.size + 1]? = some (.cells #[.pointer p, .pointer (some ⟨wr.heap.size, 0, none⟩), .bool false] 60 (0, 0)) := by
    have := heap_alloc_new (wr.alloc (.cells #[.iface 51 (.slice (some ⟨w.heap.size, 0, none⟩) (Maps.size D) (Maps.size D)), a1, .bool true, a2, .pointer p, a3] 79)) (.cells #[.pointer p, .pointer (some ⟨wr.heap.size, 0, none⟩), .bool false] 60 (0, 0))
    simpa using this
  have hL : ((wr.alloc (.cells #[.iface 51 (.slice (some ⟨w.heap.size, 0, none⟩) (Maps.size D) (Maps.size D)), a1, .bool true, a2, .pointer p, a3] 79)).alloc
      (.cells #[.pointer p, .pointer (some ⟨wr.heap.size, 0, none⟩), .bool false] 60)).heap[wr.heap.size]? = some (.cells #[.iface 51 (.slice (some ⟨w.heap.size, 0, none⟩) (Maps.size D) (Maps.size D)), a1, .bool true, a2, .pointer p, a3] 79 (0, 0)) := by
    rw [Below.heap_alloc _ _ _ (by simp)]
    exact heap_alloc_new wr _
  have hd := (HI.defs.alloc (.cells #[.iface 51 (.slice (some ⟨w.heap.size, 0, none⟩) (Maps.size D) (Maps.size D)), a1, .bool true, a2, .pointer p, a3] 79)).alloc (.cells #[.pointer p, .pointer (some ⟨wr.heap.size, 0, none⟩), .bool false] 60)
  refine ⟨?_, ?_, ⟨Maps.size D, ?_⟩, ?_, ?_, ⟨_, hL⟩⟩
  · rw [cell_of_row _ _ _ _ _ _ hS]; rfl
  · rw [cell_of_row _ _ _ _ _ _ hS]; rfl
  · rw [cell_of_row _ _ _ _ _ _ hL, keysOf_length]; rfl
  · rw [cell_of_row _ _ _ _ _ _ hL]; rfl
  · intro i c hi hc
    rw [keysOf_length] at hi
    rw [hd.cellAt (i * 4 + c) (by omega), List.take_of_length_le (by rw [keysOf_length]; exact Nat.le_refl _), defsRow_get D _ i c (by rw [keysOf_length]; exact hi) hc]
    rfl

theorem key_at {D : DataW Unit} {w wr : World} {mb nn g2 g3 c3 k : Nat} (HI : Inv D w mb nn g2 g3 c3 wr k) (hk : k < Maps.size D) :
    ∃ s : ByteArray, Hid (s.data.toList = (keysOf D).getD k []) ∧ s.size ≤ maxLen ∧ wr.cell? ⟨g3, k, none⟩ = some (.string s) := by
  have hl : k < (keysOf D).length := by rw [keysOf_length]; exact hk
  refine ⟨⟨((keysOf D).getD k []).toArray⟩, by simp [Hid], ?_, ?_⟩
  · have hm : (keysOf D).getD k [] ∈ strKeys D := by
      have h1 : (keysOf D).getD k [] ∈ keysOf D := by
        rw [List.getD, List.getElem?_eq_getElem hl]
        exact List.getElem_mem hl
      exact (List.mergeSort_perm (strKeys D) leB).mem_iff.1 h1
    have := strKeys_le HI.own Try.underlying9 _ hm
    simpa [ByteArray.size] using this
  · rw [HI.keys.cellAt k (by omega)]
    simp [List.getD, hl, encStr]
set_option maxRecDepth 100000 in
set_option maxHeartbeats 1000000 in
theorem import_any (p : Option Addr) (lab : ByteArray) (mb nn : Nat) (D : DataW Unit) (w : World) (hown : w.ownsMap Try.prog 9 impR mb nn D) (hsz : Maps.size D ≤ 4096) (hpos : 0 < Maps.size D) :
    Calls Try.prog 28 #[.pointer p, .string lab, .map (some mb)] w fun e w' => (∃ sc lv g, e = .returned (.pointer (some ⟨sc, 0, none⟩)) ∧ w.heap.size ≤ lv ∧ w.heap.size ≤ sc ∧ Level w' sc lv g p (keysOf D) (txt D)) ∧ Below w.heap.size w w' := by
  obtain ⟨i0, hi, hz0, hz1, hz2⟩ := info_parts Try.info74
  obtain ⟨j0, hj, hy0, hy1, hy2⟩ := info_parts Try.info9
  have hne : ((Maps.size D : Int) == 0) = false := by rw [beq_eq_false_iff_ne]; omega
  go_enter Try.func28, Try.ntmps28
  have hln := fun ty => hown.len Try.underlying46 ty
  go_wp2_with (first
    | (at_make; refine wpList_make_own _ rfl (.const (.int .i64 0)) (.tmp 17) 51 rfl w.heap.size 74 i0 _ 4 Try.underlying51 hi hz0 hz1 .i64 .i64 _ (Maps.size D) rfl rfl rfl (by rw [hz2]; omega) (by unfold maxLen; omega) (Nat.le_refl _) ?_; intro w1 hr1 hg1; have hown1 := hown.kept hg1 (by simp); have hln1 := fun ty => hown1.len Try.underlying46 ty)
    | (at_make; refine wpList_make_own _ rfl (.const (.int .i64 0)) (.tmp 20) 22 rfl w.heap.size 9 j0 _ 1 Try.underlying22 hj hy0 hy1 .i64 .i64 _ (Maps.size D) rfl rfl rfl (by rw [hy2]; omega) (by unfold maxLen; omega) (hg1.size) ?_; intro w2 hr2 hg2; have hown2 := hown1.kept hg2 (by simp))
    | (go_at_call 39; refine (keys_calls _ _).mono ?_; rintro e w' ⟨rfl, rfl⟩)
    | (go_at_call 38; refine (sorted_calls mb nn D w2 hown2 hsz hpos).mono ?_; rintro e w3 ⟨g3, c3, rfl, hg3, hr3, hb3⟩))
  have hsz1 : w.heap.size < w1.heap.size := (hr1.lt _ rfl).2
  have hsz2 : w1.heap.size < w2.heap.size := (hr2.lt _ rfl).2
  have hI : Inv D w mb nn w1.heap.size g3 c3 w3 0 := inv_start hg1 hg2 hown2 hr1 hr2 hr3 hb3
  clear hln hln1 hown1 hown2 hr1 hr2 hr3 hb3
  go_loopw [7, 8, 26] (fun v7 v8 i wr => ∃ k : Nat, k ≤ Maps.size D ∧ i = .int .i64 k ∧ v7 = .slice (some ⟨w.heap.size, 0, none⟩) k (Maps.size D) ∧ v8 = .slice (some ⟨w1.heap.size, 0, none⟩) k (Maps.size D) ∧ Inv D w mb nn w1.heap.size g3 c3 wr k)
    (fun _ _ i _ => Maps.size D - (intOf i).toNat)
  case atStart => exact ⟨0, Nat.zero_le _, rfl, rfl, rfl, hI⟩
  case round =>
    obtain ⟨k, hk, rfl, rfl, rfl, HI⟩ := hrel
    by_cases hlt : k < Maps.size D
    · obtain ⟨s, hss, hsl, hcell⟩ : ∃ s : ByteArray, Hid (s.data.toList = (keysOf D).getD k []) ∧ s.size ≤ maxLen ∧ wr.cell? ⟨g3, k, none⟩ = some (.string s) := key_at HI hlt
      have hm := HI.own
      obtain ⟨xs, him⟩ := HI.imps
      have hd := HI.defs
      have hf0 := field48_0
      have hf1 := field48_1
      have hml := hown.lt
      have hg12 : w.heap.size < w1.heap.size := hsz1
      go_wp2_with (first
        | (at_lookup; refine wpList_lookup_imp _ rfl (.tmp 32) (.tmp 33) rfl mb nn D rfl hm s rfl hsl ?_; intro v1)
        | (go_at_call 40; refine (string_any _ _).mono ?_; rintro e w4 ⟨rfl, rfl⟩)
        | (at_builtin; refine wpList_append_fits _ rfl (.tmp 30) (.tmp 38) 51 rfl w.heap.size 74 i0 4 Try.underlying51 hi hz1 w.heap.size k (Maps.size D) _ rfl ((hd.alloc _).alloc _) ⟨wr.heap.size + 1, 0, none⟩ 1 1 [.string s, .string (txt D s.data.toList), .slice none 0 0, .bool false] rfl rfl (news4 _ _ _ _ _ _ _) (one4 _ _) (by omega) ?_; intro w5 hd5 hgr5; have hm5 := ((hm.alloc _).alloc _).kept hgr5 (fun e => by simp at e; omega); have him5 := ((him.alloc _).alloc _).kept hgr5 (Or.inr (fun e => by simp [Value.ownBlock] at e; omega)))
        | (at_lookup; refine wpList_lookup_imp _ rfl (.tmp 41) (.tmp 42) rfl mb nn D rfl hm5 s rfl hsl ?_; intro v2)
        | (at_builtin; refine wpList_append_fits _ rfl (.tmp 40) (.tmp 45) 22 rfl w.heap.size 9 j0 1 Try.underlying22 hj hy1 w1.heap.size k (Maps.size D) xs rfl (him5.alloc _) ⟨w5.heap.size, 0, none⟩ 1 1 [.string v2] rfl rfl (cell_one_new _ _ _) (one1 _) (by omega) ?_; intro w6 hi6 hgr6))
      have R := inv_step HI hlt hml hsz1 (by omega) hss.out hd5 hgr5 hi6 hgr6
      exact ⟨⟨k + 1, by omega, by go_num, rfl, rfl, R⟩, by simp [intOf]; omega⟩
    · have hkk : k = Maps.size D := by omega
      subst hkk
      go_wp2
      go_ret
      exact ⟨⟨_, _, _, rfl, by have := HI.below.size; omega, by have := HI.below.size; omega, level_made HI⟩, (HI.below.alloc (by have := HI.below.size; omega) _).alloc (by have := HI.below.size; simp; omega) _⟩

theorem import_none (p : Option Addr) (lab : ByteArray) (mb nn : Nat) (D : DataW Unit) (w : World) (hown : w.ownsMap Try.prog 9 impR mb nn D) (h0 : Maps.size D = 0) :
    Calls Try.prog 28 #[.pointer p, .string lab, .map (some mb)] w fun e w' => e = .returned (.pointer p) ∧ w' = w := by
  have hln : ∀ ty, (Builtin.len_ #[46] ty #[.map (some mb)]).run Try.prog w = .ok (.int .i64 0) w := fun ty => by
    have := hown.len Try.underlying46 ty
    rw [h0] at this
    exact this
  go_enter Try.func28, Try.ntmps28
  go_wp2
  go_ret
  exact ⟨rfl, rfl⟩

end Go.Proofs.Qxb6613624a
