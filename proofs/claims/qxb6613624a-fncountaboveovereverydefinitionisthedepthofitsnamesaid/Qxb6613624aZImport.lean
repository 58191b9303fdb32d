/-
  zzImport BY ITS CONTRACT: the map is filled in list order (a later pair of a name takes the place of an earlier), then handed to Import.
-/
import Derived.Test.Qxb6613624aImport
import Derived.Test.Qxb6613624aNames
import Derived.RegionTactic
namespace Go.Proofs.Qxb6613624a
open Go.RowKit Go.Maps
theorem made46 (n : Nat) (w : World) : (Instr.makeMap 46 (some (.int .i64 n))).run Try.prog w = .ok (.map (some w.heap.size)) (w.alloc (.map #[] 0)) := by
  simp [Instr.makeMap, go_sem]
theorem nm_data (ss : List ByteArray) (j : Nat) : nm ss j = (ss.getD j ByteArray.empty).data.toList := ByteArray.toList_eq _

/-- The map behind k rounds: its keys are the first k names; at each name stands what the last of its pairs gave. -/
structure MapIs (ss vs : List ByteArray) (k : Nat) (D : DataW Unit) : Prop where
  keys : ∀ x, Maps.has D (.string x) = holdsTo ss x k
  vals : ∀ j, j < k → (∀ i, j < i → i < k → nm ss i ≠ nm ss j) → txt D (nm ss j) = vs.getD j ByteArray.empty

theorem MapIs.start (ss vs : List ByteArray) : MapIs ss vs 0 (.map []) := ⟨fun _ => rfl, fun _ hj => absurd hj (Nat.not_lt_zero _)⟩

theorem MapIs.step {ss vs : List ByteArray} {k : Nat} {D : DataW Unit} (h : MapIs ss vs k D) (hD : IsMap D) : MapIs ss vs (k + 1) (D.put (.string (nm ss k)) (impD (vs.getD k ByteArray.empty).data.toList (nm ss k))) := by
  have hkl : WideAt.IsKeyLit (.string (nm ss k)) := by trivial
  constructor
  · intro x
    by_cases hx : x = nm ss k
    · subst hx
      rw [has_put_same hD hkl]
      simp [holdsTo]
    · rw [has_put_other (by simpa using hx), h.keys x]
      have : (nm ss k == x) = false := by simpa using fun e : nm ss k = x => hx e.symm
      simp [holdsTo, this]
  · intro j hj hl
    by_cases hjk : j = k
    · subst hjk
      exact txt_of (b := nm ss j) (atKey_put_same hD hkl _ _)
    · have hne := hl k (by omega) (by omega)
      unfold txt
      rw [atKey_put_other (by simpa using fun e : nm ss j = nm ss k => hne e.symm)]
      exact h.vals j (by omega) (fun i h1 h2 => hl i h1 (by omega))

theorem size_of_has {D : DataW Unit} {kl : Lit} (h : Maps.has D kl = true) : 0 < Maps.size D := by
  cases D <;> try (simp [Maps.has] at h; done)
  rename_i es
  cases es with
  | nil => simp [Maps.has] at h
  | cons a r => simp [Maps.size]
theorem MapIs.pos {ss vs : List ByteArray} {D : DataW Unit} (h : MapIs ss vs ss.length D) (hp : 0 < ss.length) : 0 < Maps.size D := by
  refine size_of_has (kl := .string (nm ss 0)) ?_
  rw [h.keys]
  exact (holdsTo_iff _ _ _).2 ⟨0, hp, rfl⟩

set_option maxRecDepth 100000 in
set_option maxHeartbeats 1000000 in
theorem zzImport_walk (p : Option Addr) (lab : ByteArray) (a1 a2 : Option Addr) (ss vs : List ByteArray) (c1 c2 : Nat) (w : World) (h1 : Strs w a1 ss) (h2 : Strs w a2 vs) (hlen : vs.length = ss.length) (hn : ss.length ≤ 4096) (hsz : Hid (∀ s ∈ ss, s.size ≤ maxLen)) (hpos : 0 < ss.length) :
    Calls Try.prog 10 #[.pointer p, .string lab, .slice a1 ss.length c1, .slice a2 ss.length c2] w fun e w' =>
      (∃ D sc lv g, MapIs ss vs ss.length D ∧ KeysOk D ∧ e = .returned (.pointer (some ⟨sc, 0, none⟩)) ∧ w.heap.size ≤ lv ∧ w.heap.size ≤ sc ∧ Level w' sc lv g p (keysOf D) (txt D)) ∧ Below w.heap.size w w' := by
  have hmm := made46
  obtain ⟨b1, o1, rfl, hc1⟩ := h1.at hpos
  obtain ⟨b2, o2, rfl, hc2⟩ := h2.at (by omega : 0 < vs.length)
  have hb1 : b1 < w.heap.size := World.block_lt_of_cell? w _ (hc1 0 hpos)
  have hb2 : b2 < w.heap.size := World.block_lt_of_cell? w _ (hc2 0 (by omega))
  clear h1 h2
  go_enter Try.func10, Try.ntmps10
  go_wp2
  go_loopw [10] (fun i wr => ∃ k : Nat, k ≤ ss.length ∧ i = .int .i64 k ∧ (∃ D, wr.ownsMap Try.prog 9 impR w.heap.size k D ∧ MapIs ss vs k D) ∧ Below w.heap.size w wr)
    (fun i _ => ss.length - (intOf i).toNat)
  case atStart => exact ⟨0, Nat.zero_le _, rfl, ⟨_, World.ownsMap_made _ _ _ _, MapIs.start _ _⟩, (Below.refl _ _).alloc (Nat.le_refl _) _⟩
  case round =>
    obtain ⟨k, hk, rfl, ⟨D, hown, hM⟩, hb⟩ := hrel
    by_cases hlt : k < ss.length
    · obtain ⟨x, hx⟩ : ∃ x, x = ss.getD k ByteArray.empty := ⟨_, rfl⟩
      obtain ⟨y, hy⟩ : ∃ y, y = vs.getD k ByteArray.empty := ⟨_, rfl⟩
      have hcx : wr.cell? ⟨b1, o1 + k, none⟩ = some (.string x) := by rw [hb.cell (by exact hb1), hx]; exact hc1 k hlt
      have hcy : wr.cell? ⟨b2, o2 + k, none⟩ = some (.string y) := by rw [hb.cell (by exact hb2), hy]; exact hc2 k (by omega)
      have hxl : x.size ≤ maxLen := by
        rw [hx, List.getD, List.getElem?_eq_getElem hlt]; exact hsz.out _ (List.getElem_mem hlt)
      obtain ⟨w1, hrun, hown1, hgr1⟩ := hown.drew.update law Try.underlying46 (by unfold maxLen; omega) (WideMaps.keyOf_string_mk Try.underlying9 hxl) (impR_mk y x)
      have HS : Hid (MapIs ss vs (k + 1) (D.put (.string x.data.toList) (impD y.data.toList x.data.toList))) := by
        have := hM.step hown.isMap
        rw [nm_data, ← hx, ← hy] at this
        exact this
      clear hx hy hM
      go_wp2
      go_region
      go_wp2
      exact ⟨⟨k + 1, by omega, by go_num, ⟨_, hown1, HS.out⟩, hb.drew.grown hgr1 hb.size (fun j hj => by cases hj; exact Nat.le_refl _)⟩, by simp [intOf]; omega⟩
    · have hkk : k = ss.length := by omega
      subst hkk
      have hs1 := hown.size_le
      have hs2 := hM.pos hpos
      have hbs := hb.size
      go_wp2_with fail
      refine (import_any p lab w.heap.size _ D _ hown (by omega) hs2).mono ?_
      rintro e w' ⟨⟨sc, lv, g, rfl, hlv, hsc, hL⟩, hb'⟩
      go_wp2
      go_ret
      exact ⟨⟨D, sc, lv, g, hM, keysOk_of_own hown, rfl, by omega, by omega, hL⟩, hb.trans (hb'.mono hbs)⟩

set_option maxRecDepth 100000 in
/-- Of no pair at all: the scope it was called on. -/
theorem zzImport_none (p : Option Addr) (lab : ByteArray) (a1 a2 : Option Addr) (c1 c2 : Nat) (w : World) :
    Calls Try.prog 10 #[.pointer p, .string lab, .slice a1 0 c1, .slice a2 0 c2] w fun e w' => e = .returned (.pointer p) ∧ Below w.heap.size w w' := by
  have hmm := made46
  have hm0 : (Instr.makeMap 46 (some (.int .i64 0))).run Try.prog w = .ok (.map (some w.heap.size)) (w.alloc (.map #[] 0)) := made46 0 w
  go_enter Try.func10, Try.ntmps10
  go_wp2
  refine wp_loop_rounds 1 ?_
  rw [rounds_succ]
  go_wp2_with fail
  refine (import_none p lab w.heap.size 0 _ _ (World.ownsMap_made w _ _ _) rfl).mono ?_
  rintro e w' ⟨rfl, rfl⟩
  go_wp2
  go_ret
  exact ⟨rfl, (Below.refl _ _).alloc (Nat.le_refl _) _⟩
end Go.Proofs.Qxb6613624a
