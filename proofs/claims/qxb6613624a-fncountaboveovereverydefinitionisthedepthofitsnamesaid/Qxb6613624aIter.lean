/-
  THE SHELF's CONTRACTS ON 'slices.Sorted(maps.Keys(m))' AT THIS DUMP, IN PLAIN WORDS: written by the kit's lay-iter.mjs and lay-plain.mjs (the layings' text), joined by hand into one text; a deeper recursion is set at the layings, for the generic functions' names are long.
-/
import Derived.Shelf.SlIter.Nil
import Derived.Shelf.SortM.Plain
import Derived.Shelf.SortM.SortNone
import Derived.Test.Qxb6613624aProg
namespace Go.Proofs
open Go.RowKit Go.Maps Go.Sort Go.Shelf

def Try.keys39_ren : Go.Shelf.Ren := ⟨fun | 7 => 39 | 10 => 45 | n => n, fun | 23 => 46 | 26 => 9 | 3 => 48 | 28 => 70 | 0 => 0 | 27 => 69 | 33 => 84 | 4 => 4 | n => n, fun | n => n⟩
set_option maxRecDepth 100000 in
theorem Try.keys39 : Go.Proofs.SlLaysZ.n7 Try.prog Try.keys39_ren := {
  mixed := by kernel_rfl
  f7 := ⟨Try.f39.name, by decide, Try.func39.trans (congrArg some (by kernel_rfl))⟩
  f10 := ⟨Try.f45.name, by decide, Try.func45.trans (congrArg some (by kernel_rfl))⟩
  t0 := Try.underlying0
  a0 := Try.isAgg0
  z0 := Try.sizeOf0
  v0 := Try.zeroValue0
  t4 := Try.underlying4
  a4 := Try.isAgg4
  z4 := Try.sizeOf4
  v4 := Try.zeroValue4
  t23 := Try.underlying46
  a23 := Try.isAgg46
  z23 := Try.sizeOf46
  v23 := Try.zeroValue46
  t26 := Try.underlying9
  a26 := Try.isAgg9
  z26 := Try.sizeOf9
  v26 := Try.zeroValue9
  t27 := Try.underlying69
  a27 := Try.isAgg69
  z27 := Try.sizeOf69
  v27 := Try.zeroValue69
  t28 := Try.underlying70
  a28 := Try.isAgg70
  z28 := Try.sizeOf70
  v28 := Try.zeroValue70
  t33 := Try.underlying84
  a33 := Try.isAgg84
  z33 := Try.sizeOf84
  v33 := Try.zeroValue84 }
def Try.sorted38_ren : Go.Shelf.Ren := ⟨fun | 6 => 38 | 8 => 43 | 9 => 44 | 11 => 48 | 13 => 50 | 12 => 49 | 23 => 60 | 24 => 61 | 14 => 51 | 15 => 52 | 16 => 53 | 17 => 54 | 18 => 55 | 19 => 56 | 20 => 57 | 21 => 58 | 22 => 59 | 25 => 62 | 26 => 63 | 27 => 64 | 28 => 65 | 29 => 66 | 30 => 67 | 31 => 68 | n => n, fun | 26 => 9 | 28 => 70 | 24 => 22 | 0 => 0 | 3 => 3 | 37 => 32 | 48 => 30 | 50 => 101 | 4 => 4 | 40 => 94 | 39 => 93 | 45 => 86 | 5 => 5 | 9 => 9 | 51 => 102 | 55 => 106 | 57 => 108 | 58 => 109 | 33 => 84 | n => n, fun | n => n⟩
set_option maxRecDepth 100000 in
theorem Try.sorted38 : Go.Proofs.SlLaysZ.n6 Try.prog Try.sorted38_ren := {
  mixed := by kernel_rfl
  f6 := ⟨Try.f38.name, by decide, Try.func38.trans (congrArg some (by kernel_rfl))⟩
  f8 := ⟨Try.f43.name, by decide, Try.func43.trans (congrArg some (by kernel_rfl))⟩
  f11 := ⟨Try.f48.name, by decide, Try.func48.trans (congrArg some (by kernel_rfl))⟩
  t0 := Try.underlying0
  a0 := Try.isAgg0
  z0 := Try.sizeOf0
  v0 := Try.zeroValue0
  t24 := Try.underlying22
  a24 := Try.isAgg22
  z24 := Try.sizeOf22
  v24 := Try.zeroValue22
  t26 := Try.underlying9
  a26 := Try.isAgg9
  z26 := Try.sizeOf9
  v26 := Try.zeroValue9
  t28 := Try.underlying70
  a28 := Try.isAgg70
  z28 := Try.sizeOf70
  v28 := Try.zeroValue70
  i26 := by kernel_rfl }
def Try.sort44_ren : Go.Shelf.Ren := ⟨fun | 6 => 44 | 8 => 50 | 9 => 49 | 19 => 60 | 20 => 61 | 21 => 51 | 22 => 52 | 23 => 53 | 24 => 54 | 25 => 55 | 26 => 56 | 27 => 57 | 28 => 58 | 29 => 59 | 36 => 62 | 31 => 63 | 32 => 64 | 37 => 65 | 38 => 66 | 39 => 67 | 41 => 68 | n => n, fun | 27 => 22 | 29 => 9 | 3 => 3 | 32 => 32 | 26 => 22 | 0 => 0 | 44 => 30 | 46 => 101 | 4 => 4 | 36 => 94 | 35 => 93 | 41 => 86 | 5 => 5 | 9 => 9 | 53 => 102 | 57 => 106 | 63 => 108 | 64 => 109 | n => n, fun | n => n⟩
set_option maxRecDepth 100000 in
theorem Try.sort44 : Go.Proofs.SlLaysM.n6 Try.prog Try.sort44_ren := {
  mixed := by kernel_rfl
  f6 := ⟨Try.f44.name, by decide, Try.func44.trans (congrArg some (by kernel_rfl))⟩
  f8 := Try.func50.trans (congrArg some (by kernel_rfl))
  f9 := ⟨Try.f49.name, by decide, Try.func49.trans (congrArg some (by kernel_rfl))⟩
  f19 := Try.func60.trans (congrArg some (by kernel_rfl))
  f20 := Try.func61.trans (congrArg some (by kernel_rfl))
  f21 := ⟨Try.f51.name, by decide, Try.func51.trans (congrArg some (by kernel_rfl))⟩
  f22 := ⟨Try.f52.name, by decide, Try.func52.trans (congrArg some (by kernel_rfl))⟩
  f23 := ⟨Try.f53.name, by decide, Try.func53.trans (congrArg some (by kernel_rfl))⟩
  f24 := ⟨Try.f54.name, by decide, Try.func54.trans (congrArg some (by kernel_rfl))⟩
  f25 := ⟨Try.f55.name, by decide, Try.func55.trans (congrArg some (by kernel_rfl))⟩
  f26 := ⟨Try.f56.name, by decide, Try.func56.trans (congrArg some (by kernel_rfl))⟩
  f27 := ⟨Try.f57.name, by decide, Try.func57.trans (congrArg some (by kernel_rfl))⟩
  f28 := ⟨Try.f58.name, by decide, Try.func58.trans (congrArg some (by kernel_rfl))⟩
  f29 := ⟨Try.f59.name, by decide, Try.func59.trans (congrArg some (by kernel_rfl))⟩
  f31 := Try.func63.trans (congrArg some (by kernel_rfl))
  f32 := Try.func64.trans (congrArg some (by kernel_rfl))
  f36 := ⟨Try.f62.name, by decide, Try.func62.trans (congrArg some (by kernel_rfl))⟩
  f37 := ⟨Try.f65.name, by decide, Try.func65.trans (congrArg some (by kernel_rfl))⟩
  f38 := ⟨Try.f66.name, by decide, Try.func66.trans (congrArg some (by kernel_rfl))⟩
  f39 := ⟨Try.f67.name, by decide, Try.func67.trans (congrArg some (by kernel_rfl))⟩
  f41 := ⟨Try.f68.name, by decide, Try.func68.trans (congrArg some (by kernel_rfl))⟩
  t0 := Try.underlying0
  a0 := Try.isAgg0
  z0 := Try.sizeOf0
  v0 := Try.zeroValue0
  t3 := Try.underlying3
  a3 := Try.isAgg3
  z3 := Try.sizeOf3
  v3 := Try.zeroValue3
  t4 := Try.underlying4
  a4 := Try.isAgg4
  z4 := Try.sizeOf4
  v4 := Try.zeroValue4
  t5 := Try.underlying5
  a5 := Try.isAgg5
  z5 := Try.sizeOf5
  v5 := Try.zeroValue5
  t9 := Try.underlying9
  a9 := Try.isAgg9
  z9 := Try.sizeOf9
  v9 := Try.zeroValue9
  t26 := Try.underlying22
  a26 := Try.isAgg22
  z26 := Try.sizeOf22
  v26 := Try.zeroValue22
  t27 := Try.underlying22
  a27 := Try.isAgg22
  z27 := Try.sizeOf22
  v27 := Try.zeroValue22
  t29 := Try.underlying9
  a29 := Try.isAgg9
  z29 := Try.sizeOf9
  v29 := Try.zeroValue9
  t32 := Try.underlying32
  a32 := Try.isAgg32
  z32 := Try.sizeOf32
  v32 := Try.zeroValue32
  t35 := Try.underlying93
  a35 := Try.isAgg93
  z35 := Try.sizeOf93
  v35 := Try.zeroValue93
  t36 := Try.underlying94
  a36 := Try.isAgg94
  z36 := Try.sizeOf94
  v36 := Try.zeroValue94
  t41 := Try.underlying86
  a41 := Try.isAgg86
  z41 := Try.sizeOf86
  v41 := Try.zeroValue86
  t44 := Try.underlying30
  a44 := Try.isAgg30
  z44 := Try.sizeOf30
  v44 := Try.zeroValue30
  t46 := Try.underlying101
  a46 := Try.isAgg101
  z46 := Try.sizeOf101
  v46 := Try.zeroValue101
  t53 := Try.underlying102
  a53 := Try.isAgg102
  z53 := Try.sizeOf102
  v53 := Try.zeroValue102
  t57 := Try.underlying106
  a57 := Try.isAgg106
  z57 := Try.sizeOf106
  v57 := Try.zeroValue106
  t63 := Try.underlying108
  a63 := Try.isAgg108
  z63 := Try.sizeOf108
  v63 := Try.zeroValue108
  t64 := Try.underlying109
  a64 := Try.isAgg109
  z64 := Try.sizeOf109
  v64 := Try.zeroValue109 }

/-- slices.Sort's two contracts at this dump, at the fence that asks nothing. -/
theorem Try.sorts38 (m : Nat) : AnyZ.SortsIn Try.prog Try.sorted38_ren Fence.wide m :=
  ⟨fun blk off cap ss W hH hblk hsz => callsIn_wide.2 (AnyM.slices_Sort_string Try.sort44 blk off cap ss W hH hblk hsz),
   fun p cap W => callsIn_wide.2 (AnyM.slices_Sort_string_none Try.sort44 p cap W)⟩

/-- **maps.Keys[map[string]example.com/keelrun/keelrun/internal/vars.Imported,string,example.com/keelrun/keelrun/internal/vars.Imported], at whatever map, the nil one too:** a function value over ONE NEW BLOCK, which holds the map. -/
theorem Try.maps_Keys_39 (mb : Option Nat) (W : World) : CallsIn Fence.wide 5 Try.prog 39 #[.map mb] W fun e w' => e = .returned (.func (.func 45) #[] #[.pointer (some ⟨W.heap.size, 0, none⟩)]) ∧ w' = W.alloc (.cells #[.map mb] 46) :=
  AnyZ.keys_in Try.keys39 Fence.wide 5 trivial rfl mb W

set_option maxHeartbeats 1000000 in
/-- **slices.Sorted[string] AT WHAT maps.Keys[map[string]example.com/keelrun/keelrun/internal/vars.Imported,string,example.com/keelrun/keelrun/internal/vars.Imported] HANDED BACK FOR A MAP THAT IS NOT nil** ('w': the world AHEAD of maps.Keys' call): A NEW SLICE THAT HOLDS THE MAP's KEYS, SORTED; nil just where it has none; nothing that lay before has turned. -/
theorem Try.slices_Sorted_keys_38_39 {H : Type} (b nn : Nat) (D0 : DataW H) (R : Value → Option (DataW H × List MemPlace)) (w : World) (hown : w.ownsMap Try.prog 9 R b nn D0) (hmax : Maps.size D0 ≤ maxLen) (hbytes : Maps.size D0 * 16 ≤ 140737488355328) :
    CallsIn Fence.wide 5 Try.prog 38 #[.func (.func 45) #[] #[.pointer (some ⟨w.heap.size, 0, none⟩)]] (w.alloc (.cells #[.map (some b)] 46)) fun e w' => ∃ (v : Value) (ss : List (List UInt8)), e = .returned v ∧ ss.Perm (strKeys D0) ∧
      w'.ownsRow (w.alloc (.cells #[.map (some b)] 46)).heap.size 9 1 v ss.length ((ss.mergeSort (fun x y => decide (x ≤ y))).map encStr) ∧ (v = .slice none 0 0 ↔ ss = []) ∧ Below (w.alloc (.cells #[.map (some b)] 46)).heap.size (w.alloc (.cells #[.map (some b)] 46)) w' := by
  have hbl := hown.lt
  have hseq : SeqGives Fence.wide 2 Try.prog 45 #[.pointer (some ⟨w.heap.size, 0, none⟩)] encStr (fun ss => ss.Perm (strKeys D0)) (Maps.size D0) (w.alloc (.cells #[.map (some b)] 46)) :=
    AnyZ.keys_gives (ρ := Try.keys39_ren) { Try.keys39 with } Fence.wide _ trivial rfl (by omega) w.heap.size b nn D0 _ (by simp) (by simp) (by
      obtain ⟨es, clock, hb, Ft, hs, hD⟩ := hown
      exact ⟨es, clock, (Below.heap_alloc _ _ b hbl).trans hb, Ft, hs, hD⟩)
  exact AnyZ.sorted_in Try.sorted38 Fence.wide 5 trivial trivial trivial trivial rfl (by omega) (Try.sorts38 _) (enters_of Try.func44 (by kernel_rfl) rfl) 45 #[.pointer (some ⟨w.heap.size, 0, none⟩)] trivial (enters_of Try.func45 (by kernel_rfl) rfl) _ _ hmax hbytes _ hseq

set_option maxHeartbeats 1000000 in
/-- **.. AND FOR THE nil MAP: nil.** -/
theorem Try.slices_Sorted_keys_nil_38_39 (w : World) :
    CallsIn Fence.wide 5 Try.prog 38 #[.func (.func 45) #[] #[.pointer (some ⟨w.heap.size, 0, none⟩)]] (w.alloc (.cells #[.map none] 46)) fun e w' => ∃ (v : Value) (ss : List (List UInt8)), e = .returned v ∧ ss = [] ∧
      w'.ownsRow (w.alloc (.cells #[.map none] 46)).heap.size 9 1 v ss.length ((ss.mergeSort (fun x y => decide (x ≤ y))).map encStr) ∧ (v = .slice none 0 0 ↔ ss = []) ∧ Below (w.alloc (.cells #[.map none] 46)).heap.size (w.alloc (.cells #[.map none] 46)) w' := by
  have hseq : SeqGives Fence.wide 2 Try.prog 45 #[.pointer (some ⟨w.heap.size, 0, none⟩)] encStr (fun ss : List (List UInt8) => ss = []) 0 (w.alloc (.cells #[.map none] 46)) :=
    AnyZ.keys_gives_nil (ρ := Try.keys39_ren) { Try.keys39 with } Fence.wide _ trivial rfl w.heap.size _ (by simp) (by simp)
  exact AnyZ.sorted_in Try.sorted38 Fence.wide 5 trivial trivial trivial trivial rfl (by omega) (Try.sorts38 _) (enters_of Try.func44 (by kernel_rfl) rfl) 45 #[.pointer (some ⟨w.heap.size, 0, none⟩)] trivial (enters_of Try.func45 (by kernel_rfl) rfl) _ 0 (Nat.zero_le _) (by omega) _ hseq

end Go.Proofs
