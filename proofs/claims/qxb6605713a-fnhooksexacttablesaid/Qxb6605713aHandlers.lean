/-
  THE HOOKS' FUNCTIONS BY THEIR CONTRACTS: kindName, handlerOfKind, actions, Action, PostStart, PreStop, Hooks.
-/
import Derived.Test.Qxb6605713aProg
import Derived.WalkKit
import Derived.WalkLawsBesides
import Derived.Maps.AppendAt
namespace Go.Proofs.Qxb6605713a
open Go.RowKit
theorem Try.info9 : (Try.prog.info? 9).map (fun i => (i.zero, i.size, i.bytes)) = some (some (.string ⟨#[]⟩), 1, 16) := by kernel_rfl
/-- One of the four kinds of a handler? -/
def isKind (k : Int) : Bool := decide (k = 1) || decide (k = 2) || decide (k = 3) || decide (k = 4)
/-- A kind's name. -/
def kname (k : Int) : ByteArray :=
  if k = 1 then ⟨#[101, 120, 101, 99]⟩ else if k = 2 then ⟨#[104, 116, 116, 112, 71, 101, 116]⟩ else if k = 3 then ⟨#[115, 108, 101, 101, 112]⟩ else if k = 4 then ⟨#[116, 99, 112, 83, 111, 99, 107, 101, 116]⟩ else ⟨#[]⟩
theorem isKind_cases {k : Int} (h : isKind k = true) : k = 1 ∨ k = 2 ∨ k = 3 ∨ k = 4 := by
  simp [isKind] at h
  omega
theorem isKind_none {k : Int} (h : isKind k = false) : (k == 1) = false ∧ (k == 2) = false ∧ (k == 3) = false ∧ (k == 4) = false := by
  simp [isKind] at h
  simp
  omega
/-- A handler of kind k at block h: the kind's pointer alone is set. -/
def HandlerOf (w : World) (h : Nat) (k : Int) : Prop :=
  ∃ a : Addr, w.cell? ⟨h, 0, none⟩ = some (.pointer (if k = 1 then some a else none)) ∧ w.cell? ⟨h, 1, none⟩ = some (.pointer (if k = 2 then some a else none)) ∧
    w.cell? ⟨h, 2, none⟩ = some (.pointer (if k = 3 then some a else none)) ∧ w.cell? ⟨h, 3, none⟩ = some (.pointer (if k = 4 then some a else none))
theorem cell_below {w w' : World} {a : Addr} {v : Value} (h : w.cell? a = some v) (hb : Below w.heap.size w w') : w'.cell? a = some v := by
  rw [hb.cell (World.block_lt_of_cell? w a h)]; exact h
theorem HandlerOf.below {w w' : World} {h : Nat} {k : Int} (hh : HandlerOf w h k) (hb : Below w.heap.size w w') : HandlerOf w' h k := by
  obtain ⟨a, h0, h1, h2, h3⟩ := hh
  exact ⟨a, cell_below h0 hb, cell_below h1 hb, cell_below h2 hb, cell_below h3 hb⟩

theorem kindName_any (k : Int) (w : World) : Calls Try.prog 15 #[.int .i8 k] w fun e w' => e = .returned (.string (kname k)) ∧ w' = w := by
  cases h : isKind k with
  | true =>
    rcases isKind_cases h with rfl | rfl | rfl | rfl
    all_goals
      go_enter Try.func15, Try.ntmps15
      go_wp2
      go_ret
      exact ⟨rfl, rfl⟩
  | false =>
    obtain ⟨h1, h2, h3, h4⟩ := isKind_none h
    have HK : Hid (kname k = ⟨#[]⟩) := by
      simp only [beq_eq_false_iff_ne, ne_eq] at h1 h2 h3 h4
      simp [Hid, kname, h1, h2, h3, h4]
    clear h
    go_enter Try.func15, Try.ntmps15
    go_wp2
    go_ret
    exact ⟨by rw [HK.out]; rfl, rfl⟩

theorem handler_none (k : Int) (w : World) (h : isKind k = false) : Calls Try.prog 14 #[.int .i8 k] w fun e w' => e = .returned (.pointer none) ∧ w' = w := by
  obtain ⟨h1, h2, h3, h4⟩ := isKind_none h
  clear h
  go_enter Try.func14, Try.ntmps14
  go_wp2
  go_ret
  exact ⟨rfl, rfl⟩
theorem handler_some (k : Int) (w : World) (h : isKind k = true) : Calls Try.prog 14 #[.int .i8 k] w fun e w' => (∃ hh, e = .returned (.pointer (some ⟨hh, 0, none⟩)) ∧ w.heap.size ≤ hh ∧ HandlerOf w' hh k) ∧ Below w.heap.size w w' := by
  rcases isKind_cases h with rfl | rfl | rfl | rfl
  all_goals
    go_enter Try.func14, Try.ntmps14
    go_wp2
    go_ret
    refine ⟨⟨_, rfl, by omega, ⟨w.heap.size, 0, none⟩, ?_, ?_, ?_, ?_⟩, ((Below.refl _ _).alloc (Nat.le_refl _) _).alloc (by simp) _⟩ <;> simp

theorem one1 (a : ByteArray) : ∀ u ∈ [Value.string a], u.oneCell' = true := by
  intro u hu
  simp at hu
  subst hu
  rfl
theorem below_nil {w w1 : World} {o : Obj} (hg : (w.alloc o).grownBy w1 (Value.slice none 0 0).ownBlock) : Below w.heap.size w w1 :=
  ((Below.refl _ _).alloc (Nat.le_refl _) _).grown hg (by simp) (fun j hj => by simp [Value.ownBlock] at hj)
set_option maxRecDepth 100000 in
set_option maxHeartbeats 1000000 in
theorem actions_any (h : Nat) (k : Int) (w : World) (hk : isKind k = true) (hh : HandlerOf w h k) :
    Calls Try.prog 20 #[.pointer (some ⟨h, 0, none⟩)] w fun e w' => (∃ v, e = .returned v ∧ w'.ownsRow w.heap.size 9 1 v 1 [.string (kname k)]) ∧ Below w.heap.size w w' := by
  obtain ⟨i0, hi, hz0, hz1, hz2⟩ := info_parts Try.info9
  obtain ⟨a, h0, h1, h2, h3⟩ := hh
  have hn : w.ownsRow w.heap.size 9 1 (.slice none 0 0) 0 [] := World.ownsRow_nil _ _ _ _
  rcases isKind_cases hk with rfl | rfl | rfl | rfl
  all_goals
    simp at h0 h1 h2 h3
    have hl : h < w.heap.size := World.block_lt_of_cell? w _ h0
    clear hk
    go_enter Try.func20, Try.ntmps20
    go_wp2_with (at_builtin; refine wpList_append_own _ rfl _ _ 25 rfl w.heap.size 9 i0 _ 1 16 Try.underlying25 hi hz0 hz1 hz2 rfl (by decide) _ 0 [] rfl (hn.alloc _) ⟨w.heap.size, 0, none⟩ 1 1 _ rfl rfl (cell_one_new _ _ _) (one1 _) (by unfold maxLen; omega) (by omega) (by simp) ?_; intro v' w1 hown hgrow hnil; have hb1 : Below w.heap.size w w1 := below_nil hgrow; have k0 := cell_below h0 hb1; have k1 := cell_below h1 hb1; have k2 := cell_below h2 hb1; have k3 := cell_below h3 hb1)
    go_ret
    exact ⟨⟨_, rfl, hown⟩, hb1⟩

theorem row_slice {w : World} {base : Nat} {e : TypeId} {size : Nat} {v : Value} {n : Nat} {xs : List Value} (h : w.ownsRow base e size v n xs) (hn : 0 < n) : ∃ g cap, v = .slice (some ⟨g, 0, none⟩) n cap := by
  rcases h.2 with ⟨_, h0⟩ | ⟨g, cap, cur, hv, _⟩
  · omega
  · exact ⟨g, cap, hv⟩
set_option maxRecDepth 100000 in
theorem action_any (h : Nat) (k : Int) (w : World) (hk : isKind k = true) (hh : HandlerOf w h k) :
    Calls Try.prog 17 #[.pointer (some ⟨h, 0, none⟩)] w fun e w' => e = .returned (.string (kname k)) ∧ Below w.heap.size w w' := by
  go_enter Try.func17, Try.ntmps17
  go_wp2_with fail
  refine (actions_any h k w hk hh).mono ?_
  rintro e w1 ⟨⟨v, rfl, hown⟩, hb⟩
  obtain ⟨g, cap, hv⟩ := row_slice hown (by omega)
  have hc : w1.cell? ⟨g, 0, none⟩ = some (.string (kname k)) := by
    rw [hv] at hown
    rw [hown.cellAt 0 (by omega)]
    rfl
  rw [hv]
  clear hown
  go_wp2
  go_ret
  exact ⟨rfl, hb⟩

/-- A container's lifecycle hooks: no lifecycle, or one with two handlers' pointers. -/
def Hooked (w : World) (c : Nat) (p q : Option Addr) : Prop :=
  (w.cell? ⟨c, 6, none⟩ = some (.pointer none) ∧ p = none ∧ q = none) ∨
  ∃ l, w.cell? ⟨c, 6, none⟩ = some (.pointer (some ⟨l, 0, none⟩)) ∧ w.cell? ⟨l, 0, none⟩ = some (.pointer p) ∧ w.cell? ⟨l, 1, none⟩ = some (.pointer q)
theorem Hooked.below {w w' : World} {c : Nat} {p q : Option Addr} (h : Hooked w c p q) (hb : Below w.heap.size w w') : Hooked w' c p q := by
  rcases h with ⟨h1, h2, h3⟩ | ⟨l, h1, h2, h3⟩
  · exact Or.inl ⟨cell_below h1 hb, h2, h3⟩
  · exact Or.inr ⟨l, cell_below h1 hb, cell_below h2 hb, cell_below h3 hb⟩
set_option maxRecDepth 100000 in
theorem postStart_any (c : Nat) (p q : Option Addr) (w : World) (h : Hooked w c p q) :
    Calls Try.prog 16 #[.pointer (some ⟨c, 0, none⟩)] w fun e w' => e = .returned (.pointer p) ∧ w' = w := by
  rcases h with ⟨h1, rfl, rfl⟩ | ⟨l, h1, h2, h3⟩
  all_goals
    go_enter Try.func16, Try.ntmps16
    go_wp2
    go_ret
    exact ⟨rfl, rfl⟩
set_option maxRecDepth 100000 in
theorem preStop_any (c : Nat) (p q : Option Addr) (w : World) (h : Hooked w c p q) :
    Calls Try.prog 18 #[.pointer (some ⟨c, 0, none⟩)] w fun e w' => e = .returned (.pointer q) ∧ w' = w := by
  rcases h with ⟨h1, rfl, rfl⟩ | ⟨l, h1, h2, h3⟩
  all_goals
    go_enter Try.func18, Try.ntmps18
    go_wp2
    go_ret
    exact ⟨rfl, rfl⟩
end Go.Proofs.Qxb6605713a
