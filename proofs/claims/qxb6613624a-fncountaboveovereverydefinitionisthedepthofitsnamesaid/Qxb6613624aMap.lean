/-
  THE MAP OF IMPORTED VARIABLES (map[string]Imported, the elements structs of two strings): how an element reads, and the look-up's law at the operation for the walk.
-/
import Derived.Test.Qxb6613624aIter
import Derived.WalkKit
import Derived.WalkLawsBesides
import Derived.Maps.OwnSet
import Derived.Maps.OwnOps
import Derived.Sort.KeysCollected
namespace Go.Proofs.Qxb6613624a
open Go.RowKit Go.Maps

theorem law : Keyed Try.prog 9 := string_keyed Try.underlying9
theorem zero48 (w : World) : (zeroValue 48).run Try.prog w = .ok (.agg #[.string ⟨#[]⟩, .string ⟨#[]⟩]) w := by kernel_rfl

/-- What an element reads as. -/
def impD (a b : List UInt8) : DataW Unit := .agg [.lit (.string a), .lit (.string b)]
/-- How an element reads: a struct of two strings. -/
def impR (v : Value) : Option (DataW Unit × List MemPlace) :=
  match v with
  | .agg xs =>
    match xs.toList with
    | [.string a, .string b] => some (impD a.data.toList b.data.toList, [])
    | _ => none
  | _ => none
theorem impR_mk (a b : ByteArray) : impR (.agg #[.string a, .string b]) = some (impD a.data.toList b.data.toList, []) := rfl
theorem impR_inv {v : Value} {z : DataW Unit × List MemPlace} (h : impR v = some z) : ∃ a b, v = .agg #[.string a, .string b] ∧ z = (impD a.data.toList b.data.toList, []) := by
  unfold impR at h
  split at h
  · rename_i xs
    split at h
    · rename_i a b hx
      cases h
      refine ⟨a, b, ?_, rfl⟩
      cases xs
      simp at hx
      rw [hx]
    · cases h
  · cases h

/-- The value's text at key x. -/
def txt (D : DataW Unit) (x : List UInt8) : ByteArray :=
  match D.atKey (.string x) (impD [] []) with
  | .agg (.lit (.string a) :: _) => ⟨a.toArray⟩
  | _ => ByteArray.empty
theorem txt_of {D : DataW Unit} {x : List UInt8} {a : ByteArray} {b : List UInt8} (h : D.atKey (.string x) (impD [] []) = impD a.data.toList b) : txt D x = a := by
  unfold txt
  rw [h]
  simp [impD]

/-- 'm[k]' AT THE OPERATION. -/
theorem wpList_lookup_imp (w : World) {ops : Array Oper} {rest : List Oper} {o : Oper} {a : Act} {Q : Exit → Act → World → Prop}
    (hg : o.guard = none) (m x : Operand) (hop : o.op = Op.lookup 46 m x false) (b n : Nat) (D : DataW Unit)
    (hm : a.eval m = .map (some b)) (hown : w.ownsMap Try.prog 9 impR b n D) (s : ByteArray) (hx : a.eval x = .string s) (hs : s.size ≤ maxLen)
    (hK : ∀ v : ByteArray, wpList Try.prog ops Q rest (a.put o.dst (.agg #[.string (txt D s.data.toList), .string v])) w) :
    wpList Try.prog ops Q (o :: rest) a w := by
  refine wpList_plain hg fun K' hK' => ?_
  obtain ⟨v, ps, hrun, hv⟩ := hown.lookup law Try.underlying46 (zero48 w) (impR_mk _ _) (WideMaps.keyOf_string_mk Try.underlying9 hs)
  obtain ⟨a1, b1, rfl, hz⟩ := impR_inv hv
  simp only [Prod.mk.injEq] at hz
  have ht := txt_of (D := D) (x := s.data.toList) (a := a1) (b := b1.data.toList) hz.1
  unfold Oper.wp
  simp [execOp, hop, hm, hx, hrun, Result.andThen]
  rw [← ht]
  exact hK' _ _ (hK b1)

/-- maps.Keys and slices.Sorted, outside any fence. -/
theorem keys_calls (mb : Option Nat) (W : World) : Calls Try.prog 39 #[.map mb] W fun e w' => e = .returned (.func (.func 45) #[] #[.pointer (some ⟨W.heap.size, 0, none⟩)]) ∧ w' = W.alloc (.cells #[.map mb] 46) :=
  callsIn_wide.1 (Try.maps_Keys_39 mb W)

/-- The map's keys in order. -/
def keysOf (D : DataW Unit) : List (List UInt8) := (strKeys D).mergeSort leB
theorem size_strKeys (D : DataW Unit) : (strKeys D).length = Maps.size D := by
  cases D <;> simp [strKeys, Maps.size]
theorem keysOf_length (D : DataW Unit) : (keysOf D).length = Maps.size D := by
  rw [keysOf, List.length_mergeSort, size_strKeys]

theorem row_shape {w : World} {base : Nat} {e : TypeId} {size : Nat} {v : Value} {n : Nat} {xs : List Value} (h : w.ownsRow base e size v n xs) (hn : 0 < n) : ∃ g cap, v = .slice (some ⟨g, 0, none⟩) n cap ∧ base ≤ g ∧ g < w.heap.size := by
  rcases h.2 with ⟨_, h0⟩ | ⟨g, cap, cur, hv, hb, hg, _⟩
  · omega
  · exact ⟨g, cap, hv, hb, (Array.getElem?_eq_some_iff.1 hg).1⟩

theorem sorted_calls (b nn : Nat) (D0 : DataW Unit) (w : World) (hown : w.ownsMap Try.prog 9 impR b nn D0) (hmax : Maps.size D0 ≤ 4096) (hpos : 0 < Maps.size D0) :
    Calls Try.prog 38 #[.func (.func 45) #[] #[.pointer (some ⟨w.heap.size, 0, none⟩)]] (w.alloc (.cells #[.map (some b)] 46)) fun e w' => ∃ (g cap : Nat), e = .returned (.slice (some ⟨g, 0, none⟩) (Maps.size D0) cap) ∧
      w.heap.size < g ∧ w'.ownsRow w.heap.size 9 1 (.slice (some ⟨g, 0, none⟩) (Maps.size D0) cap) (Maps.size D0) ((keysOf D0).map encStr) ∧ Below w.heap.size w w' := by
  refine (callsIn_wide.1 (Try.slices_Sorted_keys_38_39 b nn D0 impR w hown (by unfold maxLen; omega) (by omega))).mono ?_
  rintro e w' ⟨v, ss, rfl, hS, hrow, _, hb⟩
  have hl : ss.length = Maps.size D0 := by rw [hS.length_eq, size_strKeys]
  have hk : ss.mergeSort (fun x y => decide (x ≤ y)) = keysOf D0 := mergeSort_of_perm hS
  rw [hl, hk] at hrow
  obtain ⟨g, cap, rfl, hbase, _⟩ := row_shape hrow hpos
  have hsize : (w.alloc (.cells #[.map (some b)] 46)).heap.size = w.heap.size + 1 := by simp
  refine ⟨g, cap, rfl, by omega, ⟨hrow.1, ?_⟩, ((Below.refl _ w).alloc (Nat.le_refl _) _).trans (hb.mono (by omega))⟩
  rcases hrow.2 with h | ⟨g', cap', cur, h1, h2, h3⟩
  · exact Or.inl h
  · exact Or.inr ⟨g', cap', cur, h1, by omega, h3⟩

/-- The keys of the datum: none twice; each is one that the map has. -/
def KeysOk (D : DataW Unit) : Prop := (strKeys D).Nodup ∧ ∀ x, x ∈ strKeys D ↔ Maps.has D (.string x) = true
theorem keysOk_of_own {w : World} {b n : Nat} {D : DataW Unit} {R : Value → Option (DataW Unit × List MemPlace)} (h : w.ownsMap Try.prog 9 R b n D) : KeysOk D := by
  obtain ⟨es, hD, hpw, _⟩ := h.entries law
  obtain ⟨es', hD', hko⟩ := h.keysOf
  obtain rfl : es = es' := by rw [hD] at hD'; simpa using hD'
  subst hD
  have hk : ∀ p ∈ es, ∃ x, p.1 = .string x := fun p hp => by
    obtain ⟨v, hv⟩ := hko p hp
    obtain ⟨x, _, hx, _⟩ := Maps.keyOf_str Try.underlying9 hv
    exact ⟨x, hx⟩
  constructor
  · show (es.map fun p => strOf p.1).Nodup
    refine List.pairwise_map.2 (hpw.imp_of_mem fun {p q} hp' hq' hne e => hne ?_)
    obtain ⟨a, ha⟩ := hk p hp'
    obtain ⟨b, hb⟩ := hk q hq'
    rw [ha, hb] at e ⊢
    exact congrArg _ e
  · intro x
    rw [has_eq, List.any_eq_true]
    show x ∈ es.map (fun p => strOf p.1) ↔ _
    rw [List.mem_map]
    constructor
    · rintro ⟨p, hp', rfl⟩
      obtain ⟨a, ha⟩ := hk p hp'
      exact ⟨p, hp', by rw [ha]; simp [Lit.sameKey, strOf]⟩
    · rintro ⟨p, hp', hs⟩
      obtain ⟨a, ha⟩ := hk p hp'
      rw [ha] at hs
      exact ⟨p, hp', by rw [ha]; simpa [Lit.sameKey, strOf] using hs⟩

end Go.Proofs.Qxb6613624a
