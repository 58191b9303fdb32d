/-
  countAbove BY ITS CONTRACT: it counts the levels of the chain above that have the name at a place which the list holds.
-/
import Derived.Test.Qxb6613624aHas
namespace Go.Proofs.Qxb6613624a
open Go.RowKit Go.Maps
/-- How many levels of the chain have q, at a place that the list holds. -/
def cntUp (q : List UInt8) (ds : List (Nat × Nat)) : List Lv → Nat
  | [] => 0
  | M :: c => (if q ∈ M.ks ∧ hasTo ds (M.lv, posN M.ks q) ds.length = true then 1 else 0) + cntUp q ds c
theorem cntUp_le (q : List UInt8) (ds : List (Nat × Nat)) : ∀ c, cntUp q ds c ≤ c.length
  | [] => by simp [cntUp]
  | M :: c => by
    have := cntUp_le q ds c
    simp only [cntUp, List.length_cons]
    split <;> omega
theorem cntUp_upTo (q : List UInt8) (ds : List (Nat × Nat)) : ∀ c, cntUp q ds (upTo q c) = cntUp q ds c
  | [] => rfl
  | M :: c => by
    by_cases h : q ∈ M.ks
    · rw [upTo_yes h]
    · rw [upTo_no h, cntUp_upTo q ds c]
      simp [cntUp, h]
def ovP : List Lv → Value
  | [] => .pointer none
  | M :: _ => .pointer (some ⟨M.lv, 0, none⟩)
def ovI (q : List UInt8) : List Lv → Value
  | [] => .int .i64 0
  | M :: _ => .int .i64 (posN M.ks q)
def ovB : List Lv → Value
  | [] => .bool false
  | _ :: _ => .bool true
theorem Chain.blk {w : World} : ∀ {c : List Lv}, Chain w c → ∀ M ∈ c, LvBlk w M.lv
  | [], _, M, h => by simp at h
  | L :: c, hc, M, h => by
    rcases List.mem_cons.1 h with rfl | h
    · exact hc.1.blk
    · exact Chain.blk hc.2.2.2.2 M h

set_option maxRecDepth 100000 in
set_option maxHeartbeats 1000000 in
theorem countAbove_any (L : Lv) (r : List Lv) (i : Nat) (q : List UInt8) (b cap : Nat) (ds : List (Nat × Nat)) (w : World) (hC : Hid (Chain w (L :: r))) (hi : i < L.ks.length) (hq : Hid (L.ks.getD i [] = q))
    (hr : r.length ≤ 100) (hn : ds.length ≤ 1000000) (hR : DefRow w b ds) (hB : Hid (∀ d ∈ ds, LvBlk w d.1)) :
    Calls Try.prog 37 #[.agg #[.pointer (some ⟨L.lv, 0, none⟩), .int .i64 i], .slice (some ⟨b, 0, none⟩) ds.length cap] w fun e w' => e = .returned (.int .i64 (cntUp q ds r)) ∧ Below w.heap.size w w' := by
  have hb0 := (Below.refl _ w).alloc (Nat.le_refl _) (.cells #[.pointer (some ⟨L.lv, 0, none⟩), .int .i64 i] 66)
  have hC1 : Hid (Chain (w.alloc (.cells #[.pointer (some ⟨L.lv, 0, none⟩), .int .i64 i] 66)) (L :: r)) := Chain.below hb0 hC.out
  have hle := cntUp_le q ds r
  have HU := cntUp_upTo q ds r
  have HUP : Hid (∀ M c, upTo q r = M :: c → q ∈ M.ks) := fun M c h => upTo_head h
  have HCU : Hid (Chain w (upTo q r)) := upTo_chain q hC.out.2.2.2.2
  go_enter Try.func37, Try.ntmps37
  go_wp2_with fail
  refine (over_any L r i q _ hC1 hi hq).mono ?_
  rintro e w1 ⟨rfl, rfl⟩
  generalize upTo q r = cur at HU HUP HCU
  have hloop : Hid (0 + cntUp q ds cur = cntUp q ds r) := by unfold Hid; rw [HU]; omega
  clear HU
  cases cur with
  | nil =>
    unfold overVal
    go_wp2_with fail
    refine wp_loop_rounds 1 ?_
    rw [rounds_succ]
    go_wp2
    go_ret
    exact ⟨ret_nat (by have := hloop.out; simp [cntUp] at this; omega), hb0⟩
  | cons M0 c0 =>
    unfold overVal
    go_wp2_with fail
    go_loopw [5, 6, 7, 8] (fun v5 v6 v7 v8 wr => ∃ (cur : List Lv) (m : Nat), Hid (Chain w cur) ∧ Hid (∀ M c, cur = M :: c → q ∈ M.ks) ∧ v6 = ovP cur ∧ v7 = ovI q cur ∧ v8 = ovB cur ∧ v5 = .int .i64 m ∧ m ≤ 100 ∧ Hid (m + cntUp q ds cur = cntUp q ds r) ∧ Below w.heap.size w wr) (fun _ v6 _ _ _ => ptrRank v6)
    case atStart => exact ⟨M0 :: c0, 0, HCU, HUP, rfl, rfl, rfl, rfl, by omega, hloop, hb0⟩
    case round =>
      obtain ⟨cur, m, HC, HH, rfl, rfl, rfl, rfl, hm, HE, hb⟩ := hrel
      cases cur with
      | nil =>
        unfold ovP ovI ovB
        go_wp2
        go_ret
        exact ⟨ret_nat (by have := HE.out; simp [cntUp] at this; omega), hb⟩
      | cons M c =>
        have hqM : q ∈ M.ks := HH.out M c rfl
        obtain ⟨hpl, hpe⟩ := (posN_mem HC.out.2.1).2 hqM
        have HPE : Hid (M.ks.getD (posN M.ks q) [] = q) := hpe
        have HCr : Hid (Chain wr (M :: c)) := Chain.below hb HC.out
        have hRr := hR.below hb
        have hBr : Hid (∀ d ∈ ds, LvBlk wr d.1) := fun d hd => lv_below (hB.out d hd) hb
        have hAr : Hid (LvBlk wr M.lv) := HCr.out.1.blk
        have HCw : Hid (Chain w c) := HC.out.2.2.2.2
        have HCU' : Hid (Chain w (upTo q c)) := upTo_chain q HC.out.2.2.2.2
        have HUP' : Hid (∀ M c', upTo q c = M :: c' → q ∈ M.ks) := fun M c' h => upTo_head h
        have HLT : Hid (∀ N ∈ upTo q c, N.lv < M.lv) := fun N hN => (HC.out.2.2.2.1 N (upTo_sub q c N hN)).2
        have HEE : Hid (m + ((if hasTo ds (M.lv, posN M.ks q) ds.length = true then 1 else 0) + cntUp q ds (upTo q c)) = cntUp q ds r) := by
          have := HE.out
          unfold Hid
          rw [cntUp_upTo]
          simpa [cntUp, hqM] using this
        unfold ovP ovI ovB
        clear hpe hqM HE HC
        go_wp2_with fail
        refine (contains_any b cap ds M.lv (posN M.ks q) wr hn hRr hBr hAr).mono ?_
        rintro e w2 ⟨rfl, hb2⟩
        have hb3 : Below w.heap.size w w2 := hb.trans (hb2.mono hb.size)
        have HC2 : Hid (Chain w2 (M :: c)) := Chain.below hb2 HCr.out
        cases hh : hasTo ds (M.lv, posN M.ks q) ds.length with
        | true =>
          have HF : Hid (m + 1 + cntUp q ds (upTo q c) = cntUp q ds r) := by
            have := HEE.out
            rw [hh] at this
            simp at this
            unfold Hid
            omega
          clear HEE hh
          go_wp2_with fail
          refine (over_any M c (posN M.ks q) q _ HC2 hpl HPE).mono ?_
          rintro e w3 ⟨rfl, rfl⟩
          generalize upTo q c = nxt at HF HUP' HCU' HLT
          have hm1 : m + 1 ≤ 100 := by have := HF.out; omega
          cases nxt with
          | nil =>
            unfold overVal
            go_wp2
            exact ⟨⟨[], m + 1, HCU', HUP', rfl, rfl, rfl, by go_num, hm1, HF, hb3⟩, by simp [ptrRank]⟩
          | cons N c' =>
            have hN := HLT.out N (by simp)
            unfold overVal
            go_wp2
            exact ⟨⟨N :: c', m + 1, HCU', HUP', rfl, rfl, rfl, by go_num, hm1, HF, hb3⟩, by simp [ptrRank]; omega⟩
        | false =>
          have HF : Hid (m + cntUp q ds (upTo q c) = cntUp q ds r) := by
            have := HEE.out
            rw [hh] at this
            simp at this
            exact this
          clear HEE hh
          go_wp2_with fail
          refine (over_any M c (posN M.ks q) q _ HC2 hpl HPE).mono ?_
          rintro e w3 ⟨rfl, rfl⟩
          generalize upTo q c = nxt at HF HUP' HCU' HLT
          cases nxt with
          | nil =>
            unfold overVal
            go_wp2
            exact ⟨⟨[], m, HCU', HUP', rfl, rfl, rfl, rfl, hm, HF, hb3⟩, by simp [ptrRank]⟩
          | cons N c' =>
            have hN := HLT.out N (by simp)
            unfold overVal
            go_wp2
            exact ⟨⟨N :: c', m, HCU', HUP', rfl, rfl, rfl, rfl, hm, HF, hb3⟩, by simp [ptrRank]; omega⟩
end Go.Proofs.Qxb6613624a
