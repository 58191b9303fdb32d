/-
  WHAT THE SEAT's LAWS SHARE: zzImport and zzLevelReads at two lists of one length; a slice of strings among the arguments, as the walks read it.
-/
import Derived.Test.Qxb6613624aRows
import Derived.Test.Qxb6613624aOrder
import Derived.ProofKit
import Derived.OpenShut
import Derived.ShutString
import Derived.SliceStrings
import Derived.ChangeOld
import Derived.Below
namespace Go.Proofs.Qxb6613624a
open Go.RowKit Go.Maps
open Go.ChangeShapes Go.WideShapes Go.ChangeAt

theorem zzImport_yes (p : Option Addr) (lab : ByteArray) (a1 a2 : Option Addr) (ss vs : List ByteArray) (c1 c2 : Nat) (w : World) (h1 : Strs w a1 ss) (h2 : Strs w a2 vs) (hlen : vs.length = ss.length) (hn : ss.length ≤ 4096) (hsz : Hid (∀ s ∈ ss, s.size ≤ maxLen)) (hpos : 0 < ss.length) :
    Calls Try.prog 10 #[.pointer p, .string lab, .slice a1 ss.length c1, .slice a2 vs.length c2] w fun e w' =>
      (∃ D sc lv g, MapIs ss vs ss.length D ∧ KeysOk D ∧ e = .returned (.pointer (some ⟨sc, 0, none⟩)) ∧ w.heap.size ≤ lv ∧ w.heap.size ≤ sc ∧ Level w' sc lv g p (keysOf D) (txt D)) ∧ Below w.heap.size w w' := by
  have := zzImport_walk p lab a1 a2 ss vs c1 c2 w h1 h2 hlen hn hsz hpos
  rw [← hlen] at this
  rw [← hlen]
  exact this
theorem zzImport_no (p : Option Addr) (lab : ByteArray) (a1 a2 : Option Addr) (ss vs : List ByteArray) (c1 c2 : Nat) (w : World) (hlen : vs.length = ss.length) (h0 : ss.length = 0) :
    Calls Try.prog 10 #[.pointer p, .string lab, .slice a1 ss.length c1, .slice a2 vs.length c2] w fun e w' => e = .returned (.pointer p) ∧ Below w.heap.size w w' := by
  rw [hlen, h0]
  exact zzImport_none p lab a1 a2 c1 c2 w
theorem levelReads_yes (sc lv g : Nat) (up : Option Addr) (ks : List (List UInt8)) (tx : List UInt8 → ByteArray) (a1 a2 : Option Addr) (ss vs : List ByteArray) (c1 c2 : Nat) (w : World) (hL : Level w sc lv g up ks tx) (h1 : Strs w a1 ss) (h2 : Strs w a2 vs) (hlen : vs.length = ss.length) (hn : ss.length ≤ 4096) (HR : Hid (Reads ss vs ks tx)) :
    Calls Try.prog 11 #[.pointer (some ⟨sc, 0, none⟩), .slice a1 ss.length c1, .slice a2 vs.length c2] w fun e w' => e = .returned (.bool true) ∧ Below w.heap.size w w' := by
  rw [hlen]
  exact levelReads sc lv g up ks tx a1 a2 ss vs c1 c2 w hL h1 h2 hlen hn HR

theorem own : ownKnob Try.prog.godebug = none := by kernel_rfl
theorem laidOut : laidOutB Try.prog = true := by kernel_rfl

/-- A slice of strings among the arguments, as the walks read it. -/
theorem view {H : Type} {enc : TypeId × Value → H} {W : World} {a : Option Addr} {len cap : Nat} {d : DataW H} {p : List MemPlace} (h : DataW.Trod enc Try.prog W 0 (fun _ => true) true 22 (.slice a len cap) d p) :
    ∃ ss : List ByteArray, ss.length = len ∧ Strs W a ss ∧ len ≤ maxLen ∧ Hid (∀ s ∈ ss, s.size ≤ maxLen) := by
  obtain ⟨fuel, hf⟩ := h
  rcases open_strings Try.underlying22 Try.underlying9 (by kernel_rfl) hf with ⟨hcs, _⟩ | ⟨x, l, c, zs, hcs, _, hl, hm, hz, _, hcell, hwz⟩
  · simp [Value.cells] at hcs
    obtain ⟨rfl, rfl, rfl⟩ := hcs
    exact ⟨[], rfl, Or.inl rfl, Nat.zero_le _, fun s hs => by cases hs⟩
  · simp [Value.cells] at hcs
    obtain ⟨rfl, rfl, rfl⟩ := hcs
    have hzc : zs.length = cap := by simpa using hz
    refine ⟨zs.take len, by simp; omega, ?_, by omega, fun s hs => hwz s (List.mem_of_mem_take hs)⟩
    by_cases h0 : len = 0
    · subst h0; exact Or.inl (by simp)
    · obtain ⟨b, off, spot⟩ := x
      have hspot : spot = none := by simpa [Addr.add] using World.cell?_spot (hcell 0 (by omega))
      subst hspot
      refine Or.inr ⟨b, off, rfl, fun j hj => ?_⟩
      have hj' : j < len := by simp at hj; omega
      have := hcell j (by omega)
      rw [Go.WideShapes.add_plain] at this
      rw [this]
      simp [List.getD, hj']

end Go.Proofs.Qxb6613624a
