/-
  (*Container).Hooks BY ITS CONTRACT: the hooks that are there, postStart ahead of preStop.
-/
import Derived.Test.Qxb6605713aHandlers
namespace Go.Proofs.Qxb6605713a
open Go.RowKit
theorem Try.info46 : (Try.prog.info? 46).map (fun i => (i.zero, i.size, i.bytes)) = some (some (.agg #[.string ⟨#[]⟩, .pointer none]), 2, 24) := by kernel_rfl
/-- The two fields' names. -/
def postB : ByteArray := ⟨#[112, 111, 115, 116, 83, 116, 97, 114, 116]⟩
def preB : ByteArray := ⟨#[112, 114, 101, 83, 116, 111, 112]⟩
/-- A hook's cells, where there is one. -/
def hpart (f : ByteArray) : Option Addr → List Value
  | none => []
  | some a => [.string f, .pointer (some a)]
def hcnt : Option Addr → Nat
  | none => 0
  | some _ => 1
theorem news2 (w : World) (o : Obj) (a b : Value) (t : TypeId) : ∀ j u, [a, b][j]? = some u → ((w.alloc o).alloc (.cells #[a, b] t)).cell? ((⟨w.heap.size + 1, 0, none⟩ : Addr).add j) = some u := by
  intro j u hj
  have hb : ((w.alloc o).alloc (.cells #[a, b] t)).heap[w.heap.size + 1]? = some (.cells #[a, b] t (0, 0)) := by
    have := heap_alloc_new (w.alloc o) (.cells #[a, b] t (0, 0))
    simpa using this
  rw [Addr.add_lit, cell_of_row _ _ _ _ _ _ hb, Nat.zero_add]
  simpa using hj
theorem one2 (s : ByteArray) (a : Option Addr) : ∀ u ∈ [Value.string s, .pointer a], u.oneCell' = true := by
  intro u hu
  simp at hu
  rcases hu with rfl | rfl <;> rfl

def hlen (p q : Option Addr) : Nat → Nat
  | 0 => 0
  | 1 => hcnt p
  | _ => hcnt p + hcnt q
def hrow (p q : Option Addr) : Nat → List Value
  | 0 => []
  | 1 => hpart postB p
  | _ => hpart postB p ++ hpart preB q
theorem below_own {B : Nat} {w0 wr w1 : World} {v : Value} {o1 o2 : Obj} {e : TypeId} {size n : Nat} {xs : List Value} (hb : Below B w0 wr) (hB : B ≤ wr.heap.size) (hown : wr.ownsRow B e size v n xs) (hg : ((wr.alloc o1).alloc o2).grownBy w1 v.ownBlock) : Below B w0 w1 :=
  ((hb.alloc hB _).alloc (by simp; omega) _).grown hg (by simp; omega) (fun j hj => (hown.lt j hj).1)

theorem rowEq {w : World} {base : Nat} {e : TypeId} {size n n' : Nat} {v : Value} {xs xs' : List Value} {o : Obj} (h : w.ownsRow base e size v n xs) (hn : n = n') (hx : xs = xs') : (w.alloc o).ownsRow base e size v n' xs' := by
  subst hn hx
  exact h.alloc _
theorem rowEq2 {w : World} {base : Nat} {e : TypeId} {size n n' : Nat} {v : Value} {xs xs' : List Value} (h : w.ownsRow base e size v n xs) (hn : n = n') (hx : xs = xs') : w.ownsRow base e size v n' xs' := by
  subst hn hx
  exact h

set_option maxRecDepth 100000 in
set_option maxHeartbeats 1000000 in
theorem hooks_any (c : Nat) (p q : Option Addr) (w : World) (h : Hooked w c p q) :
    Calls Try.prog 12 #[.pointer (some ⟨c, 0, none⟩)] w fun e w' => (∃ v, e = .returned v ∧ w'.ownsRow (w.heap.size + 1) 46 2 v (hcnt p + hcnt q) (hpart postB p ++ hpart preB q)) ∧ Below w.heap.size w w' := by
  obtain ⟨i0, hi, hz0, hz1, hz2⟩ := info_parts Try.info46
  go_enter Try.func12, Try.ntmps12
  go_wp2_with fail
  refine (postStart_any c p q w h).mono ?_
  rintro e w' ⟨rfl, rfl⟩
  go_wp2_with fail
  refine (preStop_any c p q w' h).mono ?_
  rintro e w ⟨rfl, rfl⟩
  go_wp2_with fail
  go_loopw [3, 14] (fun v i wr => ∃ k : Nat, k ≤ 2 ∧ i = .int .i64 k ∧ wr.ownsRow (w.heap.size + 1) 46 2 v (hlen p q k) (hrow p q k) ∧ Below (w.heap.size + 1) (w.alloc (.cells #[.string ⟨#[112, 111, 115, 116, 83, 116, 97, 114, 116]⟩, .pointer p, .string ⟨#[112, 114, 101, 83, 116, 111, 112]⟩, .pointer q] 46)) wr) (fun _ i _ => 2 - (intOf i).toNat)
  case atStart => exact ⟨0, by omega, rfl, World.ownsRow_nil _ _ _ _, Below.refl _ _⟩
  case round =>
    obtain ⟨k, hk, rfl, hown, hb⟩ := hrel
    have hB : w.heap.size + 1 ≤ wr.heap.size := by have := hb.size; simp at this; omega
    have r0 : wr.cell? ⟨w.heap.size, 0, none⟩ = some (.string ⟨#[112, 111, 115, 116, 83, 116, 97, 114, 116]⟩) := by rw [hb.cell (Nat.lt_succ_self _)]; simp
    have r1 : wr.cell? ⟨w.heap.size, 1, none⟩ = some (.pointer p) := by rw [hb.cell (Nat.lt_succ_self _)]; simp
    have r2 : wr.cell? ⟨w.heap.size, 2, none⟩ = some (.string ⟨#[112, 114, 101, 83, 116, 111, 112]⟩) := by rw [hb.cell (Nat.lt_succ_self _)]; simp
    have r3 : wr.cell? ⟨w.heap.size, 3, none⟩ = some (.pointer q) := by rw [hb.cell (Nat.lt_succ_self _)]; simp
    have hk3 : k = 0 ∨ k = 1 ∨ k = 2 := by omega
    rcases hk3 with rfl | rfl | rfl
    · cases p with
      | none =>
        go_wp2
        exact ⟨⟨1, by omega, by go_num, rowEq hown rfl rfl, hb.alloc hB _⟩, by simp [intOf]⟩
      | some a =>
        have hlp : hlen (some a) q 0 ≤ 1 := by simp [hlen]
        go_wp2_with (at_builtin; refine wpList_append_own _ rfl (.tmp 21) (.tmp 23) 42 rfl (w.heap.size + 1) 46 i0 _ 2 24 Try.underlying42 hi hz0 hz1 hz2 rfl (by decide) _ _ _ rfl ((hown.alloc _).alloc _) ⟨wr.heap.size + 1, 0, none⟩ 1 1 [.string ⟨#[112, 111, 115, 116, 83, 116, 97, 114, 116]⟩, .pointer (some a)] rfl rfl (news2 _ _ _ _ _) (one2 _ _) (by unfold maxLen; omega) (by omega) (by simp; omega) ?_; intro v' w1 hown' hgrow hnil; have hb1 := below_own hb hB hown hgrow)
        exact ⟨⟨1, by omega, by go_num, rowEq2 hown' (by simp [hlen, hcnt]) (by simp [hrow, hpart, postB]), hb1⟩, by simp [intOf]⟩
    · cases q with
      | none =>
        go_wp2
        exact ⟨⟨2, by omega, by go_num, rowEq hown (by simp [hlen, hcnt]) (by simp [hrow, hpart]), hb.alloc hB _⟩, by simp [intOf]⟩
      | some a =>
        have hlp : hlen p (some a) 1 ≤ 1 := by simp only [hlen]; cases p <;> simp [hcnt]
        go_wp2_with (at_builtin; refine wpList_append_own _ rfl (.tmp 21) (.tmp 23) 42 rfl (w.heap.size + 1) 46 i0 _ 2 24 Try.underlying42 hi hz0 hz1 hz2 rfl (by decide) _ _ _ rfl ((hown.alloc _).alloc _) ⟨wr.heap.size + 1, 0, none⟩ 1 1 [.string ⟨#[112, 114, 101, 83, 116, 111, 112]⟩, .pointer (some a)] rfl rfl (news2 _ _ _ _ _) (one2 _ _) (by unfold maxLen; omega) (by omega) (by simp; omega) ?_; intro v' w1 hown' hgrow hnil; have hb1 := below_own hb hB hown hgrow)
        exact ⟨⟨2, by omega, by go_num, rowEq2 hown' (by simp [hlen, hcnt]) (by simp [hrow, hpart, preB]), hb1⟩, by simp [intOf]⟩
    · go_wp2
      go_ret
      exact ⟨⟨_, rfl, hown⟩, ((Below.refl _ w).alloc (Nat.le_refl _) _).trans (hb.mono (by omega))⟩
end Go.Proofs.Qxb6605713a
