/-
  (*level).over BY ITS CONTRACT, over a chain of scopes: the nearest level above that has the name, with the name's place in it.
-/
import Derived.Test.Qxb6613624aIndex
namespace Go.Proofs.Qxb6613624a
open Go.RowKit Go.Maps

/-- A level with its scope: the scope's block, the level's, its definitions', its keys and their texts. -/
structure Lv where
  sc : Nat
  lv : Nat
  g : Nat
  ks : List (List UInt8)
  tx : List UInt8 → ByteArray
/-- The pointer to the scope at the head of a chain. -/
def ptr : List Lv → Option Addr
  | [] => none
  | L :: _ => some ⟨L.sc, 0, none⟩
/-- A chain of scopes, the lowest first. -/
def Chain (w : World) : List Lv → Prop
  | [] => True
  | L :: r => Level w L.sc L.lv L.g (ptr r) L.ks L.tx ∧ L.ks.Pairwise (· < ·) ∧ L.ks.length ≤ 4096 ∧ (∀ M ∈ r, M.sc < L.sc ∧ M.lv < L.lv) ∧ Chain w r
theorem Chain.below {w w' : World} (hb : Below w.heap.size w w') : ∀ {c : List Lv}, Chain w c → Chain w' c
  | [], _ => trivial
  | _ :: _, ⟨h1, h2, h3, h4, h5⟩ => ⟨h1.below hb, h2, h3, h4, Chain.below hb h5⟩
/-- The rest of the chain from the first level on that has x. -/
def upTo (x : List UInt8) : List Lv → List Lv
  | [] => []
  | L :: r => if x ∈ L.ks then L :: r else upTo x r
theorem upTo_sub (x : List UInt8) : ∀ (c : List Lv), ∀ M ∈ upTo x c, M ∈ c
  | [], M, h => by simp [upTo] at h
  | L :: r, M, h => by
    unfold upTo at h
    split at h
    · exact h
    · exact List.mem_cons_of_mem _ (upTo_sub x r M h)
theorem upTo_chain {w : World} (x : List UInt8) : ∀ {c : List Lv}, Chain w c → Chain w (upTo x c)
  | [], _ => trivial
  | L :: r, h => by
    unfold upTo
    split
    · exact h
    · exact upTo_chain x h.2.2.2.2
theorem upTo_head {x : List UInt8} : ∀ {c : List Lv} {M : Lv} {r : List Lv}, upTo x c = M :: r → x ∈ M.ks
  | [], _, _, h => by simp [upTo] at h
  | L :: c, M, r, h => by
    unfold upTo at h
    split at h
    · rename_i hx
      cases h
      exact hx
    · exact upTo_head h
theorem upTo_yes {x : List UInt8} {M : Lv} {c : List Lv} (h : x ∈ M.ks) : upTo x (M :: c) = M :: c := by simp [upTo, h]
theorem upTo_no {x : List UInt8} {M : Lv} {c : List Lv} (h : ¬ x ∈ M.ks) : upTo x (M :: c) = upTo x c := by simp [upTo, h]
/-- What 'over' answers. -/
def overVal (x : List UInt8) : List Lv → Value
  | [] => .tuple #[.pointer none, .int .i64 0, .bool false]
  | M :: _ => .tuple #[.pointer (some ⟨M.lv, 0, none⟩), .int .i64 (posN M.ks x), .bool true]
def ptrRank : Value → Nat
  | .pointer (some a) => a.block + 1
  | _ => 0

theorem rank_up {M : Lv} {c : List Lv} (h : ∀ N ∈ c, N.sc < M.sc ∧ N.lv < M.lv) : ptrRank (.pointer (ptr c)) < ptrRank (.pointer (some ⟨M.sc, 0, none⟩)) := by
  cases c with
  | nil => simp [ptr, ptrRank]
  | cons N c =>
    have := (h N (by simp)).1
    simp [ptr, ptrRank]
    omega

set_option maxRecDepth 100000 in
set_option maxHeartbeats 1000000 in
theorem over_any (L : Lv) (r : List Lv) (i : Nat) (q : List UInt8) (w : World) (hC : Hid (Chain w (L :: r))) (hi : i < L.ks.length) (hq : Hid (L.ks.getD i [] = q)) :
    Calls Try.prog 41 #[.pointer (some ⟨L.lv, 0, none⟩), .int .i64 i] w fun e w' => e = .returned (overVal q (upTo q r)) ∧ w' = w := by
  obtain ⟨hL, _, hle, hlt, hr⟩ := hC.out
  have HR : Hid (Chain w r) := hr
  obtain ⟨cap, hd⟩ := hL.defs
  have hwi := hL.within
  obtain ⟨x, hx, hxe⟩ := hL.key hi
  have HX : Hid (x.toList = q) := hxe.trans hq.out
  have hmn := method_name
  clear hr hxe hL hlt hC
  go_enter Try.func41, Try.ntmps41
  go_wp2_with fail
  refine (name_any L.g L.ks.length cap i x _ hi hx).mono ?_
  rintro e w' ⟨rfl, rfl⟩
  go_wp2_with fail
  go_loop [8] (fun s => ∃ c : List Lv, Hid (Chain w' c) ∧ s = .pointer (ptr c) ∧ Hid (upTo q c = upTo q r)) (fun s => ptrRank s)
  case atStart => exact ⟨r, HR, rfl, rfl⟩
  case round =>
    obtain ⟨c, HC, rfl, HU⟩ := hrel
    cases c with
    | nil =>
      have hp : (ptr []).isNone = true := rfl
      go_wp2
      go_ret3
      exact ⟨by rw [← HU.out]; rfl, rfl⟩
    | cons M c =>
      obtain ⟨hM, hsM, hleM, hltM, hcM⟩ := HC.out
      have hup := hM.up0
      have hva := hM.vars
      have HcM : Hid (Chain w' c) := hcM
      have hptr : ptr (M :: c) = some ⟨M.sc, 0, none⟩ := rfl
      rw [hptr]
      clear hptr hcM
      go_wp2_with fail
      refine (index_any M.sc M.lv M.g (ptr c) M.ks M.tx x _ hM hleM hsM).mono ?_
      rintro e w1 ⟨rfl, rfl⟩
      cases hmem : decide (x.toList ∈ M.ks) with
      | true =>
        have hm : q ∈ M.ks := by rw [← HX.out]; simpa using hmem
        have HM : Hid (overVal q (upTo q r) = .tuple #[.pointer (some ⟨M.lv, 0, none⟩), .int .i64 (posN M.ks x.toList), .bool true]) := by
          unfold Hid
          rw [← HU.out, HX.out, upTo_yes hm]
          rfl
        clear hm
        go_wp2
        go_ret3
        exact ⟨by rw [HM.out]; rfl, rfl⟩
      | false =>
        have hm : ¬ q ∈ M.ks := by rw [← HX.out]; simpa using hmem
        have HV : Hid (upTo q c = upTo q r) := by
          have := HU.out
          rw [upTo_no hm] at this
          exact this
        clear hm
        go_wp2
        exact ⟨⟨c, HcM, rfl, HV⟩, rank_up hltM⟩
end Go.Proofs.Qxb6613624a
