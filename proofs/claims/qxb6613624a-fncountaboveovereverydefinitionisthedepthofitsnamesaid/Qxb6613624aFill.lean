/-
  THE TWO LISTS THAT ZZcountAbove IS HANDED, FILLED BY APPEND: entries of a scope, her level and an index; and the plain laws of the whole and of the doubled choice.
-/
import Derived.Test.Qxb6613624aChoice
import Derived.Deep.DeepAppendRoom
import Derived.OwnWalk
namespace Go.Proofs.Qxb6613624a
open Go.RowKit Go.Maps
/-- A scope's block, her level's block, an index. -/
abbrev Ent := Nat × (Nat × Nat)
def ptrV (t : Ent) : Value := .pointer (some ⟨t.1, 0, none⟩)
def numV (t : Ent) : Value := .int .i64 (t.2.2 : Int)
/-- The two rows, as long as each other, both within their array. -/
structure Two (w : World) (B ba bi cap n : Nat) (T : List Ent) : Prop where
  len : T.length = n
  p : w.ownsRow B 25 1 (.slice (some ⟨ba, 0, none⟩) n cap) n (T.map ptrV)
  i : w.ownsRow B 3 1 (.slice (some ⟨bi, 0, none⟩) n cap) n (T.map numV)
theorem Two.mid {w w1 : World} {B ba bi cap n : Nat} {T : List Ent} {o : Obj} (h : Two w B ba bi cap n T) (hne : ba ≠ bi) (g1 : (w.alloc o).grownBy w1 (some ba)) (o2 : Obj) :
    (w1.alloc o2).ownsRow B 3 1 (.slice (some ⟨bi, 0, none⟩) n cap) n (T.map numV) :=
  ((h.i.alloc _).kept g1 (Or.inr (by simp only [Value.ownBlock, ne_eq, Option.some.injEq]; exact fun e => hne e.symm))).alloc _
theorem Two.step {w w1 w2 : World} {B ba bi cap n : Nat} {T : List Ent} {o2 : Obj} (t : Ent) (h : Two w B ba bi cap n T) (hne : ba ≠ bi)
    (h1 : w1.ownsRow B 25 1 (.slice (some ⟨ba, 0, none⟩) (n + 1) cap) (n + 1) (T.map ptrV ++ [ptrV t]))
    (h2 : w2.ownsRow B 3 1 (.slice (some ⟨bi, 0, none⟩) (n + 1) cap) (n + 1) (T.map numV ++ [numV t])) (g2 : (w1.alloc o2).grownBy w2 (some bi)) : Two w2 B ba bi cap (n + 1) (T ++ [t]) := by
  refine ⟨by simp [h.len], ?_, ?_⟩
  · rw [List.map_append]
    exact (h1.alloc _).kept g2 (Or.inr (by simp only [Value.ownBlock, ne_eq, Option.some.injEq]; exact hne))
  · rw [List.map_append]
    exact h2
theorem two_below {w0 w w1 w2 : World} {B ba bi cap n : Nat} {T : List Ent} {o1 o2 : Obj} (h : Two w B ba bi cap n T) (hb : Below B w0 w) (hB : B ≤ w.heap.size) (g1 : (w.alloc o1).grownBy w1 (some ba)) (g2 : (w1.alloc o2).grownBy w2 (some bi)) : Below B w0 w2 := by
  have e1 := (h.p.lt ba rfl).1
  have e2 := (h.i.lt bi rfl).1
  have s1 := g1.size
  simp at s1
  have b1 := (hb.alloc hB o1).grown g1 (by simp; omega) (fun k hk => by cases hk; exact e1)
  exact (b1.alloc (by omega) o2).grown g2 (by simp; omega) (fun k hk => by cases hk; exact e2)
theorem two_below1 {w0 w w1 : World} {B ba bi cap n : Nat} {T : List Ent} {o1 : Obj} (h : Two w B ba bi cap n T) (hb : Below B w0 w) (hB : B ≤ w.heap.size) (g1 : (w.alloc o1).grownBy w1 (some ba)) : Below B w0 w1 := by
  have e1 := (h.p.lt ba rfl).1
  exact (hb.alloc hB o1).grown g1 (by simp; omega) (fun k hk => by cases hk; exact e1)
theorem cellB {w w' : World} {a : Addr} {v : Value} (h : w.cell? a = some v) (hb : Below w.heap.size w w') : w'.cell? a = some v := by
  rw [hb.cell (World.block_lt_of_cell? w a h)]; exact h
theorem two_new {w w1 w2 : World} {cap : Nat} (h1 : w1.ownsRow w.heap.size 25 1 (.slice (some ⟨w.heap.size, 0, none⟩) 0 cap) 0 []) (h2 : w2.ownsRow w.heap.size 3 1 (.slice (some ⟨w1.heap.size, 0, none⟩) 0 cap) 0 []) (g2 : w1.grownBy w2 none) :
    Two w2 w.heap.size w.heap.size w1.heap.size cap 0 [] :=
  ⟨rfl, h1.kept g2 (Or.inr (by simp [Value.ownBlock])), h2⟩
theorem two_new_ne {w w1 : World} {cap : Nat} (h1 : w1.ownsRow w.heap.size 25 1 (.slice (some ⟨w.heap.size, 0, none⟩) 0 cap) 0 []) : w.heap.size ≠ w1.heap.size := by
  have := (h1.lt w.heap.size rfl).2
  omega
theorem two_new_below {w w1 w2 : World} (g1 : w.grownBy w1 none) (g2 : w1.grownBy w2 none) : Below w.heap.size w w2 :=
  ((Below.refl _ _).grown g1 (Nat.le_refl _) (fun j hj => by cases hj)).grown g2 g1.size (fun j hj => by cases hj)
theorem oneP (v : Value) (h : v.oneCell' = true) : ∀ u ∈ [v], u.oneCell' = true := by
  intro u hu
  simp at hu
  subst hu
  exact h
/-- What stands of the two rows, once filled. -/
structure Full (w : World) (ba bi : Nat) (T : List Ent) : Prop where
  p : ∀ k, k < T.length → w.cell? ⟨ba, k, none⟩ = some (.pointer (some ⟨(T.getD k (0, 0, 0)).1, 0, none⟩))
  i : Ints w (some ⟨bi, 0, none⟩) (T.map fun t => (t.2.2 : Int))
theorem Two.full {w : World} {B ba bi cap n : Nat} {T : List Ent} (h : Two w B ba bi cap n T) : Full w ba bi T := by
  obtain ⟨rfl, hp, hi⟩ := h
  refine ⟨fun k hk => ?_, Or.inr ⟨bi, 0, rfl, fun k hk => ?_⟩⟩
  · rw [hp.cellAt k (by omega), List.getElem?_map, List.getElem?_eq_getElem hk, List.getD, List.getElem?_eq_getElem hk]
    rfl
  · rw [List.length_map] at hk
    rw [Nat.zero_add, hi.cellAt k (by omega), List.getElem?_map, List.getElem?_eq_getElem hk, List.getD, List.getElem?_map, List.getElem?_eq_getElem hk]
    rfl
theorem Full.below {w w' : World} {ba bi : Nat} {T : List Ent} (h : Full w ba bi T) (hb : Below w.heap.size w w') : Full w' ba bi T :=
  ⟨fun k hk => by rw [hb.cell (World.block_lt_of_cell? w _ (h.p k hk))]; exact h.p k hk, h.i.below hb⟩
/-- Every entry's scope has the level. -/
def Ents (w : World) (T : List Ent) : Prop := ∀ t ∈ T, w.cell? ⟨t.1, 1, none⟩ = some (.pointer (some ⟨t.2.1, 0, none⟩)) ∧ LvBlk w t.2.1
theorem countT (L : Lv) (r : List Lv) (i : Nat) (di : Int) (q : List UInt8) (ba bi n1 n2 cap1 cap2 : Nat) (T : List Ent) (w : World) (hdi : di = (i : Int)) (hn1 : n1 = T.length) (hn2 : n2 = T.length) (hC : Hid (Chain w (L :: r))) (hi : i < L.ks.length) (hq : Hid (L.ks.getD i [] = q))
    (hr : r.length ≤ 100) (hn : T.length ≤ 100000) (hF : Hid (Full w ba bi T)) (hE : Hid (Ents w T)) :
    Calls Try.prog 25 #[.pointer (some ⟨L.sc, 0, none⟩), .int .i64 di, .slice (some ⟨ba, 0, none⟩) n1 cap1, .slice (some ⟨bi, 0, none⟩) n2 cap2] w fun e w' => e = .returned (.int .i64 (cntUp q (T.map Prod.snd) r)) ∧ Below w.heap.size w w' := by
  have hl : (T.map Prod.snd).length = T.length := List.length_map _
  refine zzCount_yes L r i di q ba cap1 cap2 n1 n2 (some ⟨bi, 0, none⟩) (T.map Prod.fst) (T.map fun t => (t.2.2 : Int)) (T.map Prod.snd) w hdi (by rw [hl]; exact hn1) (by rw [hl]; exact hn2) hC hi hq hr (by rw [hl]; exact hn) (show _ = _ by rw [hl, List.length_map]) ?_ hF.out.i ?_ ?_
  · intro k hk
    rw [hl] at hk
    have hp := hF.out.p k hk
    have he := (hE.out (T[k]) (List.getElem_mem hk)).1
    simp only [List.getD, List.getElem?_map, List.getElem?_eq_getElem hk, Option.map_some, Option.getD_some] at hp ⊢
    exact ⟨hp, he⟩
  · intro k hk
    rw [hl] at hk
    simp only [List.getD, List.getElem?_map, List.getElem?_eq_getElem hk, Option.map_some, Option.getD_some]
  · intro d hd
    obtain ⟨t, ht, rfl⟩ := List.mem_map.1 hd
    exact (hE.out t ht).2
/-- The whole of a level. -/
def lev (sc lv k : Nat) : List Ent := (List.range k).map fun j => (sc, (lv, j))
theorem lev_succ (sc lv k : Nat) : lev sc lv (k + 1) = lev sc lv k ++ [(sc, (lv, k))] := by simp [lev, List.range_succ]
theorem lev_zero (sc lv : Nat) : lev sc lv 0 = [] := rfl
theorem lev_length (sc lv k : Nat) : (lev sc lv k).length = k := by simp [lev]
/-- The k-th choice. -/
def ent (xs zs : List Int) (sc1 sc2 sc3 lv1 lv2 lv3 k : Nat) : Ent := (pick3 (xs.getD k 0) sc1 sc2 sc3, (pick3 (xs.getD k 0) lv1 lv2 lv3, (zs.getD k 0).toNat))
def ups (f : Nat → Ent) (k : Nat) : List Ent := (List.range k).map f
def downs (f : Nat → Ent) (n k : Nat) : List Ent := (List.range k).map fun j => f (n - 1 - j)
theorem ups_succ (f : Nat → Ent) (k : Nat) : ups f (k + 1) = ups f k ++ [f k] := by simp [ups, List.range_succ]
theorem downs_succ (f : Nat → Ent) (n k : Nat) : downs f n (k + 1) = downs f n k ++ [f (n - 1 - k)] := by simp [downs, List.range_succ]
theorem downs_zero (f : Nat → Ent) (n : Nat) : downs f n 0 = [] := rfl
theorem ups_length (f : Nat → Ent) (k : Nat) : (ups f k).length = k := by simp [ups]
theorem downs_length (f : Nat → Ent) (n k : Nat) : (downs f n k).length = k := by simp [downs]
theorem hasTo_mem (ds : List (Nat × Nat)) (p : Nat × Nat) : hasTo ds p ds.length = true ↔ p ∈ ds := by
  rw [hasTo_iff]
  constructor
  · rintro ⟨k, hk, he⟩
    rw [List.getD, List.getElem?_eq_getElem hk] at he
    rw [← he]
    exact List.getElem_mem hk
  · intro h
    obtain ⟨k, hk, he⟩ := List.mem_iff_getElem.1 h
    exact ⟨k, hk, by rw [List.getD, List.getElem?_eq_getElem hk]; exact he⟩
theorem cntUp_alike (q : List UInt8) {ds ds' : List (Nat × Nat)} (h : ∀ p, p ∈ ds ↔ p ∈ ds') : ∀ r, cntUp q ds r = cntUp q ds' r
  | [] => rfl
  | M :: r => by simp only [cntUp, hasTo_mem, h, cntUp_alike q h r]
/-- Choosing each twice counts as choosing each once. -/
theorem count_doubled (q : List UInt8) (f : Nat → Ent) (n : Nat) (r : List Lv) : cntUp q ((ups f n ++ downs f n n).map Prod.snd) r = cntUp q ((ups f n).map Prod.snd) r := by
  refine cntUp_alike q (fun p => ?_) r
  simp only [List.map_append, List.mem_append]
  constructor
  · rintro (h | h)
    · exact h
    · obtain ⟨t, ht, rfl⟩ := List.mem_map.1 h
      obtain ⟨j, hj, rfl⟩ := List.mem_map.1 ht
      have := List.mem_range.1 hj
      exact List.mem_map.2 ⟨_, List.mem_map.2 ⟨n - 1 - j, List.mem_range.2 (by omega), rfl⟩, rfl⟩
  · exact Or.inl
theorem ups_dsOf (xs zs : List Int) (sc1 sc2 sc3 lv1 lv2 lv3 : Nat) : (ups (ent xs zs sc1 sc2 sc3 lv1 lv2 lv3) xs.length).map Prod.snd = dsOf xs zs lv1 lv2 lv3 := by
  simp [ups, dsOf, ent]
/-- The whole of the three levels. -/
def whole (sc1 lv1 c1 sc2 lv2 c2 sc3 lv3 c3 : Nat) : List Ent := lev sc1 lv1 c1 ++ lev sc2 lv2 c2 ++ lev sc3 lv3 c3
theorem depth_two {s1 s2 : List ByteArray} {D1 D2 : DataW Unit} {c3 lv1 lv2 lv3 sc1 sc2 sc3 g1 g2 : Nat} (H1 : Hid (MapIs s1 s1 s1.length D1 ∧ KeysOk D1)) (H2 : Hid (MapIs s2 s2 s2.length D2 ∧ KeysOk D2)) (q : List UInt8) :
    cntUp q ((whole sc1 lv1 (distinctN s1) sc2 lv2 (distinctN s2) sc3 lv3 c3).map Prod.snd) [⟨sc2, lv2, g2, keysOf D2, txt D2⟩, ⟨sc1, lv1, g1, keysOf D1, txt D1⟩] =
      (if holdsTo s2 q s2.length = true then 1 else 0) + (if holdsTo s1 q s1.length = true then 1 else 0) := by
  simp only [cntUp, hasTo_mem, ← mem_keys H1, ← mem_keys H2, Nat.add_zero]
  congr 1
  · by_cases hq : q ∈ keysOf D2
    · rw [if_pos hq, if_pos]
      refine ⟨hq, List.mem_map.2 ⟨(sc2, (lv2, posN (keysOf D2) q)), ?_, rfl⟩⟩
      have := ((posN_mem (keysOf_sorted H2.out.2)).2 hq).1
      rw [keysOf_distinct H2.out.2 H2.out.1] at this
      simp only [whole, lev, List.mem_append, List.mem_map, List.mem_range]
      exact Or.inl (Or.inr ⟨_, this, rfl⟩)
    · rw [if_neg hq, if_neg (fun h => hq h.1)]
  · by_cases hq : q ∈ keysOf D1
    · rw [if_pos hq, if_pos]
      refine ⟨hq, List.mem_map.2 ⟨(sc1, (lv1, posN (keysOf D1) q)), ?_, rfl⟩⟩
      have := ((posN_mem (keysOf_sorted H1.out.2)).2 hq).1
      rw [keysOf_distinct H1.out.2 H1.out.1] at this
      simp only [whole, lev, List.mem_append, List.mem_map, List.mem_range]
      exact Or.inl (Or.inl ⟨_, this, rfl⟩)
    · rw [if_neg hq, if_neg (fun h => hq h.1)]
/-- No choice counts more than the depth. -/
theorem once_le {s1 s2 : List ByteArray} {D1 D2 : DataW Unit} {lv1 lv2 sc1 sc2 g1 g2 : Nat} (H1 : Hid (MapIs s1 s1 s1.length D1 ∧ KeysOk D1)) (H2 : Hid (MapIs s2 s2 s2.length D2 ∧ KeysOk D2)) (q : List UInt8) (ds : List (Nat × Nat)) :
    cntUp q ds [⟨sc2, lv2, g2, keysOf D2, txt D2⟩, ⟨sc1, lv1, g1, keysOf D1, txt D1⟩] ≤ (if holdsTo s2 q s2.length = true then 1 else 0) + (if holdsTo s1 q s1.length = true then 1 else 0) := by
  simp only [cntUp, ← mem_keys H1, ← mem_keys H2, Nat.add_zero]
  refine Nat.add_le_add ?_ ?_
  · by_cases hq : q ∈ keysOf D2
    · rw [if_pos hq]; split <;> omega
    · rw [if_neg hq, if_neg (fun h => hq h.1)]; exact Nat.le_refl _
  · by_cases hq : q ∈ keysOf D1
    · rw [if_pos hq]; split <;> omega
    · rw [if_neg hq, if_neg (fun h => hq h.1)]; exact Nat.le_refl _
/-- Every entry of the whole, and every choice, is a scope's with her level. -/
theorem ents_of {w : World} {sc1 lv1 g1 sc2 lv2 g2 sc3 lv3 g3 : Nat} {D1 D2 D3 : DataW Unit}
    (hC : Hid (Chain w [⟨sc3, lv3, g3, keysOf D3, txt D3⟩, ⟨sc2, lv2, g2, keysOf D2, txt D2⟩, ⟨sc1, lv1, g1, keysOf D1, txt D1⟩])) {T : List Ent} (hT : Hid (∀ t ∈ T, (t.1 = sc1 ∧ t.2.1 = lv1) ∨ (t.1 = sc2 ∧ t.2.1 = lv2) ∨ (t.1 = sc3 ∧ t.2.1 = lv3))) : Hid (Ents w T) := by
  obtain ⟨hL3, _, _, _, hL2, _, _, _, hL1, _⟩ := hC.out
  intro t ht
  rcases hT.out t ht with ⟨e1, e2⟩ | ⟨e1, e2⟩ | ⟨e1, e2⟩ <;> rw [e1, e2]
  · exact ⟨hL1.vars, hL1.blk⟩
  · exact ⟨hL2.vars, hL2.blk⟩
  · exact ⟨hL3.vars, hL3.blk⟩
theorem whole_ents (sc1 lv1 c1 sc2 lv2 c2 sc3 lv3 c3 : Nat) : Hid (∀ t ∈ whole sc1 lv1 c1 sc2 lv2 c2 sc3 lv3 c3, (t.1 = sc1 ∧ t.2.1 = lv1) ∨ (t.1 = sc2 ∧ t.2.1 = lv2) ∨ (t.1 = sc3 ∧ t.2.1 = lv3)) := by
  intro t ht
  simp only [whole, lev, List.mem_append, List.mem_map, List.mem_range] at ht
  rcases ht with (⟨_, _, rfl⟩ | ⟨_, _, rfl⟩) | ⟨_, _, rfl⟩
  · exact Or.inl ⟨rfl, rfl⟩
  · exact Or.inr (Or.inl ⟨rfl, rfl⟩)
  · exact Or.inr (Or.inr ⟨rfl, rfl⟩)
/-- The cells of the k-th choice. -/
theorem ent_cells {w : World} {xs zs : List Int} {k1 k2 k3 sc1 sc2 sc3 b : Nat} {a5 : Option Addr} (lv1 lv2 lv3 : Nat) (hF : Hid (Fits xs zs k1 k2 k3 xs.length)) (hL : Hid (zs.length = xs.length))
    (hp : ∀ k, k < xs.length → w.cell? ⟨b, k, none⟩ = some (.pointer (some ⟨pick3 (xs.getD k 0) sc1 sc2 sc3, 0, none⟩))) (hz : Ints w a5 zs) {k : Nat} (hk : k < xs.length) :
    ∃ ob oo, a5 = some ⟨ob, oo, none⟩ ∧ ∃ t : Ent, t = ent xs zs sc1 sc2 sc3 lv1 lv2 lv3 k ∧ w.cell? ⟨b, k, none⟩ = some (.pointer (some ⟨t.1, 0, none⟩)) ∧ w.cell? ⟨ob, oo + k, none⟩ = some (.int .i64 (t.2.2 : Int)) := by
  obtain ⟨ob, oo, ha, hc⟩ := hz.at (k := k) (by rw [hL.out]; exact hk)
  refine ⟨ob, oo, ha, _, rfl, hp k hk, ?_⟩
  rw [hc k (by rw [hL.out]; exact hk)]
  have := (hF.out k hk).1
  have e : ((ent xs zs sc1 sc2 sc3 lv1 lv2 lv3 k).2.2 : Int) = zs.getD k 0 := by
    show (((zs.getD k 0).toNat : Nat) : Int) = zs.getD k 0
    omega
  rw [e]
theorem ent_ents {xs zs : List Int} {k1 k2 k3 : Nat} (hF : Hid (Fits xs zs k1 k2 k3 xs.length)) (sc1 lv1 sc2 lv2 sc3 lv3 : Nat) : Hid (∀ t ∈ ups (ent xs zs sc1 sc2 sc3 lv1 lv2 lv3) xs.length ++ downs (ent xs zs sc1 sc2 sc3 lv1 lv2 lv3) xs.length xs.length, (t.1 = sc1 ∧ t.2.1 = lv1) ∨ (t.1 = sc2 ∧ t.2.1 = lv2) ∨ (t.1 = sc3 ∧ t.2.1 = lv3)) := by
  have key : ∀ k, k < xs.length → (((ent xs zs sc1 sc2 sc3 lv1 lv2 lv3 k).1 = sc1 ∧ (ent xs zs sc1 sc2 sc3 lv1 lv2 lv3 k).2.1 = lv1) ∨ ((ent xs zs sc1 sc2 sc3 lv1 lv2 lv3 k).1 = sc2 ∧ (ent xs zs sc1 sc2 sc3 lv1 lv2 lv3 k).2.1 = lv2) ∨ ((ent xs zs sc1 sc2 sc3 lv1 lv2 lv3 k).1 = sc3 ∧ (ent xs zs sc1 sc2 sc3 lv1 lv2 lv3 k).2.1 = lv3)) := by
    intro k hk
    unfold ent pick3
    rcases Fits.level hF hk with h | h | h <;> simp only [h] <;> simp
  intro t ht
  rcases List.mem_append.1 ht with h | h
  · obtain ⟨j, hj, rfl⟩ := List.mem_map.1 h
    exact key j (List.mem_range.1 hj)
  · obtain ⟨j, hj, rfl⟩ := List.mem_map.1 h
    have := List.mem_range.1 hj
    exact key _ (by omega)
theorem chosen_ents {xs zs : List Int} {k1 k2 k3 : Nat} (hF : Hid (Fits xs zs k1 k2 k3 xs.length)) (sc1 lv1 sc2 lv2 sc3 lv3 : Nat) : Hid (∀ t ∈ ups (ent xs zs sc1 sc2 sc3 lv1 lv2 lv3) xs.length, (t.1 = sc1 ∧ t.2.1 = lv1) ∨ (t.1 = sc2 ∧ t.2.1 = lv2) ∨ (t.1 = sc3 ∧ t.2.1 = lv3)) :=
  fun t ht => (ent_ents hF sc1 lv1 sc2 lv2 sc3 lv3).out t (List.mem_append_left _ ht)
end Go.Proofs.Qxb6613624a
