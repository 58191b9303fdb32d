/-
  'Rows.FnCountAboveOverEveryDefinitionIsTheDepthOfItsNameSaid': the law's own walk over its callees' contracts, and the row's step.
-/
import Derived.Test.Qxb6613624aRows
import Derived.Test.Qxb6613624aFill
import Derived.Deep.Light
namespace Go.Proofs.Qxb6613624a
open Go.RowKit Go.Maps

set_option maxRecDepth 100000 in
set_option maxHeartbeats 40000000 in
theorem walk7 (a1 a2 a3 : Option Addr) (s1 s2 s3 : List ByteArray) (c1 c2 c3 : Nat) (di : Int) (a4 a5 : Option Addr) (xs zs : List Int) (c4 c5 : Nat) (w : World)
    (h1 : Strs w a1 s1) (n1 : s1.length ≤ maxLen) (z1 : Hid (∀ s ∈ s1, s.size ≤ maxLen)) (h2 : Strs w a2 s2) (n2 : s2.length ≤ maxLen) (z2 : Hid (∀ s ∈ s2, s.size ≤ maxLen)) (h3 : Strs w a3 s3) (n3 : s3.length ≤ maxLen) (z3 : Hid (∀ s ∈ s3, s.size ≤ maxLen))
    (h4 : Ints w a4 xs) (n4 : xs.length ≤ maxLen) (h5 : Ints w a5 zs) (n5 : zs.length ≤ maxLen) :
    Calls Try.prog 7 #[.slice a1 s1.length c1, .slice a2 s2.length c2, .slice a3 s3.length c3, .int .i64 di, .slice a4 xs.length c4, .slice a5 zs.length c5] w fun e w' => e = .returned (.bool true) ∧ Below w.heap.size w w' := by
  have m1 := n1
  have m2 := n2
  have m3 := n3
  have m4 := n4
  have m5 := n5
  unfold maxLen at m1 m2 m3 m4 m5
  have hne := fun (w : World) (a : Option Addr) (n c : Nat) => run_neq_slice_nil_any (P := Try.prog) w 34 3 a n c 0 0 Try.underlying34
  obtain ⟨i0, hii, hz0, hz1, hz2⟩ := info_parts Try.info3
  obtain ⟨j0, hjj, hy0, hy1, hy2⟩ := info_parts Try.info25
  go_enter Try.func7, Try.ntmps7
  go_wp2_with fail
  refine (bytes26 a1 s1 c1 a2 s2 c2 a3 s3 c3 di a4 a5 xs.length c4 zs.length c5 w h1 n1 h2 n2 h3 n3).mono ?_
  rintro e w' ⟨⟨b, rfl⟩, rfl⟩
  cases b with
  | false =>
    go_wp2
    go_ret
    exact ⟨rfl, Below.refl _ _⟩
  | true =>
    by_cases g1 : 4096 < (s1.length : Int)
    · go_wp2
      go_ret
      exact ⟨rfl, Below.refl _ _⟩
    by_cases g2 : 4096 < (s2.length : Int)
    · go_wp2
      go_ret
      exact ⟨rfl, Below.refl _ _⟩
    by_cases g3 : 4096 < (s3.length : Int)
    · go_wp2
      go_ret
      exact ⟨rfl, Below.refl _ _⟩
    by_cases g4 : 4096 < (xs.length : Int)
    · go_wp2
      go_ret
      exact ⟨rfl, Below.refl _ _⟩
    by_cases g5 : 4096 < (zs.length : Int)
    · go_wp2
      go_ret
      exact ⟨rfl, Below.refl _ _⟩
    clear m1 m2 m3 m4 m5
    go_upto_if 72 with (fail)
    go_cut [5, 13] from 73 to 79 (fun v5 v13 wc => ∃ a c, v5 = .slice a zs.length c ∧ Hid (Ints wc a zs) ∧ Below w'.heap.size w' wc)
    case first =>
      cases a5 with
      | none =>
        go_wp2
        go_meet
        case rel => exact ⟨none, c5, rfl, h5, Below.refl _ _⟩
      | some a =>
        go_wp2_with (at_make; refine wpList_make_full _ rfl _ _ 34 rfl w'.heap.size 3 i0 (.int .i64 0) 1 Try.underlying34 hii hz0 hz1 .i64 .i64 _ _ zs.length rfl rfl rfl rfl (by rw [hz2]; omega) (by unfold maxLen; omega) (Nat.le_refl _) ?_; intro w1 hown1 hgrow1; obtain ⟨w2, hcp, hg2, hb2⟩ := copy_run (c5 := c5) h5 hown1 hgrow1; clear hown1 hgrow1)
        go_meet
        case rel => exact ⟨_, _, rfl, hg2, hb2⟩
    case rest =>
      obtain ⟨a5', c5', rfl, HZ, hb0⟩ := hcut
      have h1c := h1.below hb0
      have h2c := h2.below hb0
      have h3c := h3.below hb0
      have h4c := h4.below hb0
      clear h1 h2 h3 h4 h5 hne
      go_wp2_with fail
      refine (addStrings _ a1 s1 c1 _ h1c n1).mono ?_
      rintro e wd ⟨⟨r1, rfl⟩, rfl⟩
      go_wp2_with fail
      refine (addStrings _ a2 s2 c2 _ h2c n2).mono ?_
      rintro e wc ⟨⟨r2, rfl⟩, rfl⟩
      go_wp2_with fail
      refine (addStrings _ a3 s3 c3 _ h3c n3).mono ?_
      rintro e wd ⟨⟨r3, rfl⟩, rfl⟩
      by_cases k0 : 1048576 < r3
      · go_wp2
        go_ret
        exact ⟨rfl, hb0⟩
      by_cases e1 : s1.length = 0
      · have k1 : ((s1.length : Int) == 0) = true := by rw [e1]; rfl
        clear e1
        go_wp2
        go_ret
        exact ⟨rfl, hb0⟩
      have k1 : ((s1.length : Int) == 0) = false := by rw [beq_eq_false_iff_ne]; omega
      by_cases e2 : s2.length = 0
      · have k2 : ((s2.length : Int) == 0) = true := by rw [e2]; rfl
        clear e2
        go_wp2
        go_ret
        exact ⟨rfl, hb0⟩
      have k2 : ((s2.length : Int) == 0) = false := by rw [beq_eq_false_iff_ne]; omega
      by_cases e3 : s3.length = 0
      · have k3 : ((s3.length : Int) == 0) = true := by rw [e3]; rfl
        clear e3
        go_wp2
        go_ret
        exact ⟨rfl, hb0⟩
      have k3 : ((s3.length : Int) == 0) = false := by rw [beq_eq_false_iff_ne]; omega
      by_cases e4 : zs.length = xs.length
      rotate_left
      · have k4 : ((xs.length : Int) != (zs.length : Int)) = true := by rw [bne_iff_ne]; omega
        go_wp2
        go_ret
        exact ⟨rfl, hb0⟩
      have k4 : ((xs.length : Int) != (zs.length : Int)) = false := by rw [e4]; simp
      have HL : Hid (zs.length = xs.length) := e4
      have p1 : 0 < s1.length := by omega
      have p2 : 0 < s2.length := by omega
      have p3 : 0 < s3.length := by omega
      clear e1 e2 e3 e4
      go_wp2_with fail
      refine (lastFlags a1 s1 c1 wd h1c (by omega)).mono ?_
      rintro e w1 ⟨rfl, f1, b1⟩
      have F1 := Flags.of_row f1
      have h2d := h2c.below b1
      go_wp2_with fail
      refine (lastFlags a2 s2 c2 w1 h2d (by omega)).mono ?_
      rintro e w2 ⟨rfl, f2, b2⟩
      have F2 := Flags.of_row f2
      have h3d := (h3c.below b1).below b2
      go_wp2_with fail
      refine (lastFlags a3 s3 c3 w2 h3d (by omega)).mono ?_
      rintro e w3 ⟨rfl, f3, b3⟩
      have F3 := Flags.of_row f3
      have F1' := (F1.below b2).below b3
      have F2' := F2.below b3
      have h1e := ((h1c.below b1).below b2).below b3
      have h2e := (h2d.below b2).below b3
      have h3e := h3d.below b3
      have h4e := ((h4c.below b1).below b2).below b3
      have HZe : Ints w3 a5' zs := ((HZ.out.below b1).below b2).below b3
      have bb3 : Below wd.heap.size wd w3 := (b1.trans (b2.mono b1.size)).trans (b3.mono (Nat.le_trans b1.size b2.size))
      have bb : Below w'.heap.size w' w3 := hb0.trans (bb3.mono hb0.size)
      clear f1 f2 f3 F1 F2 h1c h2c h3c h4c h2d h3d HZ b1 b2 b3 bb3 hb0
      have d1 := distinct_le s1
      have d2 := distinct_le s2
      have d3 := distinct_le s3
      go_wp2_with fail
      refine (distinct_any _ s1 _ _ F1' (by omega)).mono ?_
      rintro e w4 ⟨rfl, rfl⟩
      go_wp2_with fail
      refine (distinct_any _ s2 _ _ F2' (by omega)).mono ?_
      rintro e w3 ⟨rfl, rfl⟩
      go_wp2_with fail
      refine (distinct_any _ s3 _ _ F3 (by omega)).mono ?_
      rintro e w4 ⟨rfl, rfl⟩
      by_cases d4 : di < 0
      · go_wp2
        go_ret
        exact ⟨rfl, bb⟩
      by_cases d5 : (distinctN s3 : Int) ≤ di
      · go_wp2
        go_ret
        exact ⟨rfl, bb⟩
      have d6 : decide (di < 0) = false := by simpa using d4
      have d7 : decide ((distinctN s3 : Int) ≤ di) = false := by simpa using d5
      go_wp2_with fail
      refine (picksFit_yes a4 a5' xs zs _ _ _ _ _ w4 h4e HZe HL.out (by omega)).mono ?_
      rintro e w3 ⟨⟨bf, rfl, HFit⟩, rfl⟩
      cases bf with
      | false =>
        go_wp2
        go_ret
        exact ⟨rfl, bb⟩
      | true =>
      have HF := HFit.out rfl
      have HFF : Hid (Fits xs zs (distinctN s1) (distinctN s2) (distinctN s3) xs.length) := HF
      clear HF HFit
      go_wp2_with fail
      refine (zzImport_yes none _ a1 a1 s1 s1 c1 c1 w3 h1e h1e rfl (by omega) z1 p1).mono ?_
      rintro e v1 ⟨⟨D1, sc1, lv1, g1', hM1, hK1, rfl, hlv1, hsc1, hL1⟩, x1⟩
      go_wp2_with fail
      refine (zzImport_yes _ _ a2 a2 s2 s2 c2 c2 v1 (h2e.below x1) (h2e.below x1) rfl (by omega) z2 p2).mono ?_
      rintro e v2 ⟨⟨D2, sc2, lv2, g2', hM2, hK2, rfl, hlv2, hsc2, hL2⟩, x2⟩
      go_wp2_with fail
      refine (zzImport_yes _ _ a3 a3 s3 s3 c3 c3 v2 ((h3e.below x1).below x2) ((h3e.below x1).below x2) rfl (by omega) z3 p3).mono ?_
      rintro e v3 ⟨⟨D3, sc3, lv3, g3', hM3, hK3, rfl, hlv3, hsc3, hL3⟩, x3⟩
      have HC : Hid (Chain v3 [⟨sc3, lv3, g3', keysOf D3, txt D3⟩, ⟨sc2, lv2, g2', keysOf D2, txt D2⟩, ⟨sc1, lv1, g1', keysOf D1, txt D1⟩]) :=
        chain3 hL1 hL2 hL3 x2 x3 hK1 hM1 hK2 hM2 hK3 hM3 (by omega) (by omega) (by omega) hsc2 hlv2 hsc3 hlv3
      have HM1 : Hid (MapIs s1 s1 s1.length D1 ∧ KeysOk D1) := ⟨hM1, hK1⟩
      have HM2 : Hid (MapIs s2 s2 s2.length D2 ∧ KeysOk D2) := ⟨hM2, hK2⟩
      have HM3 : Hid (MapIs s3 s3 s3.length D3 ∧ KeysOk D3) := ⟨hM3, hK3⟩
      have y : Below w3.heap.size w3 v3 := (x1.trans (x2.mono x1.size)).trans (x3.mono (Nat.le_trans x1.size x2.size))
      have F1v := F1'.below y
      have F2v := F2'.below y
      have F3v := F3.below y
      have t1 := h1e.below y
      have t2 := h2e.below y
      have t3 := h3e.below y
      have t4 := h4e.below y
      have t5 := HZe.below y
      have bv : Below w'.heap.size w' v3 := bb.trans (y.mono bb.size)
      clear F1' F2' F3 h1e h2e h3e h4e HZe bb y x1 x2 x3 hL1 hL2 hL3 hM1 hM2 hM3 hK1 hK2 hK3
      go_wp2_with (at_make; refine wpList_make_full _ rfl _ _ 40 rfl v3.heap.size 25 j0 (.pointer none) 1 Try.underlying40 hjj hy0 hy1 .i64 .i64 _ _ xs.length rfl rfl rfl rfl (by rw [hy2]; omega) (by unfold maxLen; omega) (Nat.le_refl _) ?_; intro v4 hrow hgrow)
      have LO12 : Hid (lv1 < lv2 ∧ lv2 < lv3) := ⟨(HC.out.2.2.2.2.2.2.2.1 ⟨sc1, lv1, g1', keysOf D1, txt D1⟩ (by simp)).2, (HC.out.2.2.2.1 ⟨sc2, lv2, g2', keysOf D2, txt D2⟩ (by simp)).2⟩
      go_loopw [25] (fun i wr => ∃ k : Nat, k ≤ xs.length ∧ i = .int .i64 k ∧ wr.ownsRow v3.heap.size 25 1 (.slice (some ⟨v3.heap.size, 0, none⟩) xs.length xs.length) xs.length (ptrRow xs sc1 sc2 sc3 k) ∧ Below v3.heap.size v3 wr) (fun i _ => xs.length - (intOf i).toNat)
      case atStart => exact ⟨0, Nat.zero_le _, rfl, ptrRow_zero xs sc1 sc2 sc3 ▸ hrow, (Below.refl _ _).grown hgrow (Nat.le_refl _) (fun j hj => by cases hj)⟩
      case round =>
        obtain ⟨k, hk, rfl, hown, hb⟩ := hrel
        clear hrow hgrow
        by_cases hlt : k < xs.length
        · have t4r := t4.below hb
          obtain ⟨ob, oo, ha4, hc4⟩ := t4r.at hlt
          have q4 := hc4 k hlt
          have HLV : Hid (xs.getD k 0 = 1 ∨ xs.getD k 0 = 2 ∨ xs.getD k 0 = 3) := Fits.level HFF hlt
          have cell := hown.cellAt k (by omega)
          have frz := hown.frozenAt k
          have st := (hown.stored k (.pointer (some ⟨pick3 (xs.getD k 0) sc1 sc2 sc3, 0, none⟩))).1
          rw [ptrRow_succ] at st
          have cell' : wr.cell? ⟨v3.heap.size, k, none⟩ = some (.pointer none) := by
            rw [cell]; simp [ptrRow, hlt]
          obtain ⟨x, hx⟩ : ∃ x, x = xs.getD k 0 := ⟨_, rfl⟩
          rw [← hx] at q4 HLV st
          subst ha4
          clear cell hc4 t4r hx t1 t2 t3 t4 t5 F1v F2v F3v hown HC
          go_wp2_with fail
          refine (scopeAt_yes x sc1 sc2 sc3 _ HLV).mono ?_
          rintro e wq ⟨rfl, rfl⟩
          go_wp2
          go_light
          exact ⟨⟨k + 1, by omega, by go_num, st, hb.setCell (Nat.le_refl _) _⟩, by simp [intOf]; omega⟩
        · have hkk : k = xs.length := by omega
          subst hkk
          have HCr : Hid (Chain wr [⟨sc3, lv3, g3', keysOf D3, txt D3⟩, ⟨sc2, lv2, g2', keysOf D2, txt D2⟩, ⟨sc1, lv1, g1', keysOf D1, txt D1⟩]) := Chain.below hb HC.out
          have hpc : ∀ k, k < xs.length → wr.cell? ⟨v3.heap.size, k, none⟩ = some (.pointer (some ⟨pick3 (xs.getD k 0) sc1 sc2 sc3, 0, none⟩)) := fun k hk => ptrRow_cell hown hk
          obtain ⟨R1, R2, R3⟩ := chosen_rows HCr HFF hpc
          have F1r := F1v.below hb
          have F2r := F2v.below hb
          have F3r := F3v.below hb
          have u1 := t1.below hb
          have u2 := t2.below hb
          have u3 := t3.below hb
          have u4 := t4.below hb
          have u5 := t5.below hb
          have br : Below w'.heap.size w' wr := bv.trans (hb.mono bv.size)
          have hex := name_ex HM3 (di := di) (by omega) (by omega)
          have hb3s := hb.size
          clear t1 t2 t3 t4 t5 F1v F2v F3v hown HC hpc bv hb
          go_wp2_with fail
          refine (nameAtRank_any a3 _ s3 di _ _ wr u3 F3r (by omega) hex).mono ?_
          rintro e wq ⟨⟨j, hj, hjl, hjr, rfl⟩, rfl⟩
          obtain ⟨qdi, qlt, qat⟩ := def_at HM3 hj hjr
          obtain ⟨q, hq⟩ : ∃ q, q = s3.getD j ByteArray.empty := ⟨_, rfl⟩
          have hqn : nm s3 j = q.toList := by rw [hq]; rfl
          rw [hqn] at qdi qlt qat
          rw [← hq]
          have QDI : Hid (di = (rankN s3 q.toList : Nat)) := qdi
          have QAT : Hid ((keysOf D3).getD (rankN s3 q.toList) [] = q.toList) := qat
          clear hex hjl hjr hq hqn qdi qat F3r u3 hj
          have HFULL : Hid (cntUp q.toList ((whole sc1 lv1 (distinctN s1) sc2 lv2 (distinctN s2) sc3 lv3 (distinctN s3)).map Prod.snd) [⟨sc2, lv2, g2', keysOf D2, txt D2⟩, ⟨sc1, lv1, g1', keysOf D1, txt D1⟩] = _) := depth_two (c3 := distinctN s3) (lv3 := lv3) (sc3 := sc3) (sc1 := sc1) (sc2 := sc2) (g1 := g1') (g2 := g2') (lv1 := lv1) (lv2 := lv2) HM1 HM2 q.toList
          have HONCE : Hid (cntUp q.toList (dsOf xs zs lv1 lv2 lv3) [⟨sc2, lv2, g2', keysOf D2, txt D2⟩, ⟨sc1, lv1, g1', keysOf D1, txt D1⟩] ≤ _) := once_le (sc1 := sc1) (sc2 := sc2) (g1 := g1') (g2 := g2') (lv1 := lv1) (lv2 := lv2) HM1 HM2 q.toList (dsOf xs zs lv1 lv2 lv3)
          have HP0 : Hid (∀ k, k < xs.length → wq.cell? ⟨v3.heap.size, k, none⟩ = some (.pointer (some ⟨pick3 (xs.getD k 0) sc1 sc2 sc3, 0, none⟩))) := by
            intro k hk
            have := (R1 k (by rw [dsOf_length]; exact hk)).1
            rwa [scsOf_get xs sc1 sc2 sc3 hk] at this
          have hz4 : zs.length ≤ xs.length := Nat.le_of_eq HL.out
          have hz5 : xs.length ≤ zs.length := Nat.le_of_eq HL.out.symm
          clear R1 R2 R3 F1r F2r u4 HM1 HM2 HM3 LO12 hb3s
          go_wp2_with fail
          refine (holds_any a2 s2 q _ _ u2 (by omega)).mono ?_
          rintro e wr ⟨rfl, rfl⟩
          generalize holdsTo s2 q.toList s2.length = B2 at HFULL HONCE ⊢
          generalize hB1 : holdsTo s1 q.toList s1.length = B1 at HFULL HONCE
          go_upto_if 192 with (fail)
          go_cut [27] from 193 to 194 (fun v27 wc => ∃ d : Nat, v27 = .int .i64 d ∧ Hid (d = (if B2 = true then 1 else 0)) ∧ wc = wr)
          case first =>
            cases B2 with
            | false =>
              go_wp2
              go_meet
              case rel => exact ⟨0, rfl, rfl, rfl⟩
            | true =>
              go_wp2
              go_meet
              case rel => exact ⟨1, rfl, rfl, rfl⟩
          case rest =>
          obtain ⟨d, rfl, HD, rfl⟩ := hcut
          have hd1 : d ≤ 1 := by rw [HD.out]; split <;> omega
          go_wp2_with fail
          refine (holds_any a1 s1 q _ _ u1 (by omega)).mono ?_
          rintro e wr ⟨rfl, rfl⟩
          rw [hB1]
          clear hB1 u1 u2
          go_upto_if 197 with (fail)
          go_cut [27] from 198 to 199 (fun v27 wc => ∃ d' : Nat, v27 = .int .i64 d' ∧ Hid (d' = (if B2 = true then 1 else 0) + (if B1 = true then 1 else 0)) ∧ wc = wr)
          case first =>
            cases B1 with
            | false =>
              go_wp2
              go_meet
              case rel => exact ⟨d, rfl, (show d = _ by rw [HD.out]; rfl), rfl⟩
            | true =>
              go_wp2
              go_meet
              case rel => exact ⟨d + 1, by go_num, (show d + 1 = _ by rw [HD.out]; rfl), rfl⟩
          case rest =>
          clear HD hd1 d
          obtain ⟨d, rfl, HD, rfl⟩ := hcut
          rw [← HD.out] at HFULL HONCE
          clear HD
          obtain ⟨N, hN⟩ : ∃ N, N = distinctN s1 + distinctN s2 + distinctN s3 := ⟨_, rfl⟩
          have hN1 : N ≤ distinctN s1 + distinctN s2 + distinctN s3 := by omega
          have hN2 : distinctN s1 + distinctN s2 + distinctN s3 ≤ N := by omega
          clear hN
          go_wp2_with (first
            | (at_make; refine wpList_make_own _ rfl _ _ 40 rfl wc.heap.size 25 j0 (.pointer none) 1 Try.underlying40 hjj hy0 hy1 .i64 .i64 _ N rfl rfl (by omega) (by rw [hy2]; omega) (by unfold maxLen; omega) (Nat.le_refl _) ?_; intro w5 hA gA)
            | (at_make; refine wpList_make_own _ rfl _ _ 34 rfl wc.heap.size 3 i0 (.int .i64 0) 1 Try.underlying34 hii hz0 hz1 .i64 .i64 _ N rfl rfl (by omega) (by rw [hz2]; omega) (by unfold maxLen; omega) gA.size ?_; intro w6 hI gI))
          have TW : Hid (Two w6 wc.heap.size wc.heap.size w5.heap.size N 0 []) := two_new hA hI gI
          have hne := two_new_ne hA
          have b6 := two_new_below gA gI
          generalize w5.heap.size = bi at TW hne ⊢
          clear hA gA hI gI
          go_loopw [28, 29, 30] (fun va vb i wr => ∃ k : Nat, k ≤ distinctN s1 ∧ i = .int .i64 k ∧ va = .slice (some ⟨wc.heap.size, 0, none⟩) (k) N ∧ vb = .slice (some ⟨bi, 0, none⟩) (k) N ∧ Hid (Two wr wc.heap.size wc.heap.size bi N (k) (lev sc1 lv1 k)) ∧ Below wc.heap.size wc wr) (fun _ _ i _ => distinctN s1 - (intOf i).toNat)
          case atStart => exact ⟨0, Nat.zero_le _, rfl, rfl, rfl, TW, b6⟩
          case round =>
            obtain ⟨k, hk, rfl, rfl, rfl, HT, hb⟩ := hrel
            by_cases hlt : k < distinctN s1
            · have hB : wc.heap.size ≤ wr.heap.size := hb.size
              clear TW b6 HFULL HONCE HP0 HCr u5 QDI QAT HFF
              go_wp2_with (first
                | (at_builtin; refine wpList_append_own_spare _ rfl _ _ 40 rfl wc.heap.size 25 j0 1 Try.underlying40 hjj hy1 wc.heap.size (k) N _ rfl (HT.out.p.alloc _) ⟨wr.heap.size, 0, none⟩ 1 1 [.pointer (some ⟨sc1, 0, none⟩)] rfl rfl (cell_one_new _ _ _) (oneP _ rfl) (by omega) ?_; intro w7 hA7 gA7)
                | (at_builtin; refine wpList_append_own_spare _ rfl _ _ 34 rfl wc.heap.size 3 i0 1 Try.underlying34 hii hz1 bi (k) N _ rfl (HT.out.mid hne gA7 _) ⟨w7.heap.size, 0, none⟩ 1 1 [.int .i64 k] rfl rfl (cell_one_new _ _ _) (oneP _ rfl) (by omega) ?_; intro w8 hI8 gI8))
              exact ⟨⟨k + 1, by omega, by go_num, rfl, rfl, (show Two _ _ _ _ _ _ _ by rw [lev_succ]; exact HT.out.step (sc1, (lv1, k)) hne hA7 hI8 gI8), two_below HT.out hb hB gA7 gI8⟩, by simp [intOf]; omega⟩
            · have hkk : k = distinctN s1 := by omega
              subst hkk
              clear hlt hk
              have HT1 := HT
              have hb1 := hb
              clear HT hb
              go_wp2_with fail
              go_loopw [28, 29, 31] (fun va vb i wr => ∃ k : Nat, k ≤ distinctN s2 ∧ i = .int .i64 k ∧ va = .slice (some ⟨wc.heap.size, 0, none⟩) (distinctN s1 + k) N ∧ vb = .slice (some ⟨bi, 0, none⟩) (distinctN s1 + k) N ∧ Hid (Two wr wc.heap.size wc.heap.size bi N (distinctN s1 + k) (lev sc1 lv1 (distinctN s1) ++ lev sc2 lv2 k)) ∧ Below wc.heap.size wc wr) (fun _ _ i _ => distinctN s2 - (intOf i).toNat)
              case atStart => exact ⟨0, Nat.zero_le _, rfl, rfl, rfl, (show Two _ _ _ _ _ _ _ by rw [lev_zero, List.append_nil]; exact HT1.out), hb1⟩
              case round =>
                obtain ⟨k, hk, rfl, rfl, rfl, HT, hb⟩ := hrel
                by_cases hlt : k < distinctN s2
                · have hB : wc.heap.size ≤ wr.heap.size := hb.size
                  clear HT1 hb1 TW b6 HFULL HONCE HP0 HCr u5 QDI QAT HFF
                  go_wp2_with (first
                    | (at_builtin; refine wpList_append_own_spare _ rfl _ _ 40 rfl wc.heap.size 25 j0 1 Try.underlying40 hjj hy1 wc.heap.size (distinctN s1 + k) N _ rfl (HT.out.p.alloc _) ⟨wr.heap.size, 0, none⟩ 1 1 [.pointer (some ⟨sc2, 0, none⟩)] rfl rfl (cell_one_new _ _ _) (oneP _ rfl) (by omega) ?_; intro w7 hA7 gA7)
                    | (at_builtin; refine wpList_append_own_spare _ rfl _ _ 34 rfl wc.heap.size 3 i0 1 Try.underlying34 hii hz1 bi (distinctN s1 + k) N _ rfl (HT.out.mid hne gA7 _) ⟨w7.heap.size, 0, none⟩ 1 1 [.int .i64 k] rfl rfl (cell_one_new _ _ _) (oneP _ rfl) (by omega) ?_; intro w8 hI8 gI8))
                  exact ⟨⟨k + 1, by omega, by go_num, rfl, rfl, (show Two _ _ _ _ _ _ _ by rw [lev_succ, ← List.append_assoc]; exact HT.out.step (sc2, (lv2, k)) hne hA7 hI8 gI8), two_below HT.out hb hB gA7 gI8⟩, by simp [intOf]; omega⟩
                · have hkk : k = distinctN s2 := by omega
                  subst hkk
                  clear hlt hk
                  have HT2 := HT
                  have hb2 := hb
                  clear HT hb
                  go_wp2_with fail
                  go_loopw [28, 29, 32] (fun va vb i wr => ∃ k : Nat, k ≤ distinctN s3 ∧ i = .int .i64 k ∧ va = .slice (some ⟨wc.heap.size, 0, none⟩) (distinctN s1 + distinctN s2 + k) N ∧ vb = .slice (some ⟨bi, 0, none⟩) (distinctN s1 + distinctN s2 + k) N ∧ Hid (Two wr wc.heap.size wc.heap.size bi N (distinctN s1 + distinctN s2 + k) (lev sc1 lv1 (distinctN s1) ++ lev sc2 lv2 (distinctN s2) ++ lev sc3 lv3 k)) ∧ Below wc.heap.size wc wr) (fun _ _ i _ => distinctN s3 - (intOf i).toNat)
                  case atStart => exact ⟨0, Nat.zero_le _, rfl, rfl, rfl, (show Two _ _ _ _ _ _ _ by rw [lev_zero, List.append_nil]; exact HT2.out), hb2⟩
                  case round =>
                    obtain ⟨k, hk, rfl, rfl, rfl, HT, hb⟩ := hrel
                    by_cases hlt : k < distinctN s3
                    · have hB : wc.heap.size ≤ wr.heap.size := hb.size
                      clear HT1 HT2 hb1 hb2 TW b6 HFULL HONCE HP0 HCr u5 QDI QAT HFF
                      go_wp2_with (first
                        | (at_builtin; refine wpList_append_own_spare _ rfl _ _ 40 rfl wc.heap.size 25 j0 1 Try.underlying40 hjj hy1 wc.heap.size (distinctN s1 + distinctN s2 + k) N _ rfl (HT.out.p.alloc _) ⟨wr.heap.size, 0, none⟩ 1 1 [.pointer (some ⟨sc3, 0, none⟩)] rfl rfl (cell_one_new _ _ _) (oneP _ rfl) (by omega) ?_; intro w7 hA7 gA7)
                        | (at_builtin; refine wpList_append_own_spare _ rfl _ _ 34 rfl wc.heap.size 3 i0 1 Try.underlying34 hii hz1 bi (distinctN s1 + distinctN s2 + k) N _ rfl (HT.out.mid hne gA7 _) ⟨w7.heap.size, 0, none⟩ 1 1 [.int .i64 k] rfl rfl (cell_one_new _ _ _) (oneP _ rfl) (by omega) ?_; intro w8 hI8 gI8))
                      exact ⟨⟨k + 1, by omega, by go_num, rfl, rfl, (show Two _ _ _ _ _ _ _ by rw [lev_succ, ← List.append_assoc]; exact HT.out.step (sc3, (lv3, k)) hne hA7 hI8 gI8), two_below HT.out hb hB gA7 gI8⟩, by simp [intOf]; omega⟩
                    · have hkk : k = distinctN s3 := by omega
                      subst hkk
                      clear hlt hk
                      have HT3 := HT
                      have hb3 := hb
                      clear HT hb
                      have FA : Hid (Full wr wc.heap.size bi (whole sc1 lv1 (distinctN s1) sc2 lv2 (distinctN s2) sc3 lv3 (distinctN s3))) := HT3.out.full
                      have HLW : Hid ((whole sc1 lv1 (distinctN s1) sc2 lv2 (distinctN s2) sc3 lv3 (distinctN s3)).length = distinctN s1 + distinctN s2 + distinctN s3) := HT3.out.len
                      have HCx : Hid (Chain wr [⟨sc3, lv3, g3', keysOf D3, txt D3⟩, ⟨sc2, lv2, g2', keysOf D2, txt D2⟩, ⟨sc1, lv1, g1', keysOf D1, txt D1⟩]) := Chain.below hb3 HCr.out
                      have HPx : Hid (∀ k, k < xs.length → wr.cell? ⟨v3.heap.size, k, none⟩ = some (.pointer (some ⟨pick3 (xs.getD k 0) sc1 sc2 sc3, 0, none⟩))) := fun k hk => cellB (HP0.out k hk) hb3
                      have ux := u5.below hb3
                      have bx : Below w'.heap.size w' wr := br.trans (hb3.mono br.size)
                      clear HT1 HT2 HT3 hb1 hb2 hb3 HCr HP0 u5 br TW b6 hne
                      revert wr
                      intro wd FA HCx HPx ux bx
                      go_wp2_with (first
                        | (at_make; refine wpList_make_own _ rfl _ _ 40 rfl wd.heap.size 25 j0 (.pointer none) 1 Try.underlying40 hjj hy0 hy1 .i64 .i64 _ (2 * xs.length) rfl rfl (by omega) (by rw [hy2]; omega) (by unfold maxLen; omega) (Nat.le_refl _) ?_; intro w5 hA gA)
                        | (at_make; refine wpList_make_own _ rfl _ _ 34 rfl wd.heap.size 3 i0 (.int .i64 0) 1 Try.underlying34 hii hz0 hz1 .i64 .i64 _ (2 * xs.length) rfl rfl (by omega) (by rw [hz2]; omega) (by unfold maxLen; omega) gA.size ?_; intro w6 hI gI))
                      have TW : Hid (Two w6 wd.heap.size wd.heap.size w5.heap.size (2 * xs.length) 0 []) := two_new hA hI gI
                      have hne := two_new_ne hA
                      have b6 := two_new_below gA gI
                      generalize w5.heap.size = bj at TW hne ⊢
                      clear hA gA hI gI
                      go_loopw [33, 34, 35] (fun va vb i wr => ∃ k : Nat, k ≤ xs.length ∧ i = .int .i64 k ∧ va = .slice (some ⟨wd.heap.size, 0, none⟩) k (2 * xs.length) ∧ vb = .slice (some ⟨bj, 0, none⟩) k (2 * xs.length) ∧ Hid (Two wr wd.heap.size wd.heap.size bj (2 * xs.length) k (ups (ent xs zs sc1 sc2 sc3 lv1 lv2 lv3) k)) ∧ Below wd.heap.size wd wr) (fun _ _ i _ => xs.length - (intOf i).toNat)
                      case atStart => exact ⟨0, Nat.zero_le _, rfl, rfl, rfl, TW, b6⟩
                      case round =>
                        obtain ⟨k, hk, rfl, rfl, rfl, HT, hb⟩ := hrel
                        by_cases hlt : k < xs.length
                        · have hB : wd.heap.size ≤ wr.heap.size := hb.size
                          obtain ⟨ob, oo, ha5, t, ht, pc, zc⟩ := ent_cells lv1 lv2 lv3 HFF HL HPx.out ux hlt
                          have HTT : Hid (t = ent xs zs sc1 sc2 sc3 lv1 lv2 lv3 k) := ht
                          have pc1 := cellB pc hb
                          subst ha5
                          clear ht pc TW b6 HFULL HONCE HPx HCx ux QDI QAT FA
                          go_wp2_with (first
                            | (at_builtin; refine wpList_append_own_spare _ rfl _ _ 40 rfl wd.heap.size 25 j0 1 Try.underlying40 hjj hy1 wd.heap.size k (2 * xs.length) _ rfl (HT.out.p.alloc _) ⟨wr.heap.size, 0, none⟩ 1 1 [.pointer (some ⟨t.1, 0, none⟩)] rfl rfl (cell_one_new _ _ _) (oneP _ rfl) (by omega) ?_; intro w7 hA7 gA7; have zc1 := cellB zc (two_below1 HT.out hb hB gA7))
                            | (at_builtin; refine wpList_append_own_spare _ rfl _ _ 34 rfl wd.heap.size 3 i0 1 Try.underlying34 hii hz1 bj k (2 * xs.length) _ rfl (HT.out.mid hne gA7 _) ⟨w7.heap.size, 0, none⟩ 1 1 [.int .i64 (t.2.2 : Int)] rfl rfl (cell_one_new _ _ _) (oneP _ rfl) (by omega) ?_; intro w8 hI8 gI8))
                          exact ⟨⟨k + 1, by omega, by go_num, rfl, rfl, (show Two _ _ _ _ _ _ _ by rw [ups_succ, ← HTT.out]; exact HT.out.step t hne hA7 hI8 gI8), two_below HT.out hb hB gA7 gI8⟩, by simp [intOf]; omega⟩
                        · have hkk : k = xs.length := by omega
                          subst hkk
                          clear hlt hk
                          go_wp2_with fail
                          go_loopw [33, 34, 36] (fun va vb i wr => ∃ k : Nat, k ≤ xs.length ∧ i = .int .i64 ((xs.length : Int) - 1 - k) ∧ va = .slice (some ⟨wd.heap.size, 0, none⟩) (xs.length + k) (2 * xs.length) ∧ vb = .slice (some ⟨bj, 0, none⟩) (xs.length + k) (2 * xs.length) ∧ Hid (Two wr wd.heap.size wd.heap.size bj (2 * xs.length) (xs.length + k) (ups (ent xs zs sc1 sc2 sc3 lv1 lv2 lv3) xs.length ++ downs (ent xs zs sc1 sc2 sc3 lv1 lv2 lv3) xs.length k)) ∧ Below wd.heap.size wd wr) (fun _ _ i _ => (intOf i + 1).toNat)
                          case atStart => exact ⟨0, Nat.zero_le _, by simp, rfl, rfl, (show Two _ _ _ _ _ _ _ by rw [downs_zero, List.append_nil]; exact HT.out), hb⟩
                          case round =>
                            clear HT hb
                            obtain ⟨k, hk, rfl, rfl, rfl, HT, hb⟩ := hrel
                            by_cases hlt : k < xs.length
                            · have hB : wd.heap.size ≤ wr.heap.size := hb.size
                              obtain ⟨y, hy⟩ : ∃ y, y = xs.length - 1 - k := ⟨_, rfl⟩
                              have hyi : (xs.length : Int) - 1 - k = (y : Int) := by omega
                              have hyl : y < xs.length := by omega
                              obtain ⟨ob, oo, ha5, t, ht, pc, zc⟩ := ent_cells lv1 lv2 lv3 HFF HL HPx.out ux hyl
                              have HTT : Hid (t = ent xs zs sc1 sc2 sc3 lv1 lv2 lv3 (xs.length - 1 - k)) := by rw [← hy]; exact ht
                              have pc1 := cellB pc hb
                              subst ha5
                              rw [hyi]
                              clear ht pc TW b6 HFULL HONCE HPx HCx ux QDI QAT FA hy hyl
                              go_wp2_with (first
                                | (at_builtin; refine wpList_append_own_spare _ rfl _ _ 40 rfl wd.heap.size 25 j0 1 Try.underlying40 hjj hy1 wd.heap.size (xs.length + k) (2 * xs.length) _ rfl (HT.out.p.alloc _) ⟨wr.heap.size, 0, none⟩ 1 1 [.pointer (some ⟨t.1, 0, none⟩)] rfl rfl (cell_one_new _ _ _) (oneP _ rfl) (by omega) ?_; intro w7 hA7 gA7; have zc1 := cellB zc (two_below1 HT.out hb hB gA7))
                                | (at_builtin; refine wpList_append_own_spare _ rfl _ _ 34 rfl wd.heap.size 3 i0 1 Try.underlying34 hii hz1 bj (xs.length + k) (2 * xs.length) _ rfl (HT.out.mid hne gA7 _) ⟨w7.heap.size, 0, none⟩ 1 1 [.int .i64 (t.2.2 : Int)] rfl rfl (cell_one_new _ _ _) (oneP _ rfl) (by omega) ?_; intro w8 hI8 gI8))
                              exact ⟨⟨k + 1, by omega, by go_num, rfl, rfl, (show Two _ _ _ _ _ _ _ by rw [downs_succ, ← HTT.out, ← List.append_assoc]; exact HT.out.step t hne hA7 hI8 gI8), two_below HT.out hb hB gA7 gI8⟩, by simp [intOf] <;> omega⟩
                            · have hkk : k = xs.length := by omega
                              subst hkk
                              clear hlt hk
                              have FD : Hid (Full wr wd.heap.size bj (ups (ent xs zs sc1 sc2 sc3 lv1 lv2 lv3) xs.length ++ downs (ent xs zs sc1 sc2 sc3 lv1 lv2 lv3) xs.length xs.length)) := HT.out.full
                              have HLD : Hid ((ups (ent xs zs sc1 sc2 sc3 lv1 lv2 lv3) xs.length ++ downs (ent xs zs sc1 sc2 sc3 lv1 lv2 lv3) xs.length xs.length).length = xs.length + xs.length) := HT.out.len
                              have FAr : Hid (Full wr wc.heap.size bi (whole sc1 lv1 (distinctN s1) sc2 lv2 (distinctN s2) sc3 lv3 (distinctN s3))) := FA.out.below hb
                              have HCz : Hid (Chain wr [⟨sc3, lv3, g3', keysOf D3, txt D3⟩, ⟨sc2, lv2, g2', keysOf D2, txt D2⟩, ⟨sc1, lv1, g1', keysOf D1, txt D1⟩]) := Chain.below hb HCx.out
                              have HPz : Hid (∀ k, k < xs.length → wr.cell? ⟨v3.heap.size, k, none⟩ = some (.pointer (some ⟨pick3 (xs.getD k 0) sc1 sc2 sc3, 0, none⟩))) := fun k hk => cellB (HPx.out k hk) hb
                              have uz := ux.below hb
                              have bz : Below w'.heap.size w' wr := bx.trans (hb.mono bx.size)
                              clear HT hb FA HCx HPx ux bx TW b6 hne
                              go_wp2_with fail
                              refine (countT ⟨sc3, lv3, g3', keysOf D3, txt D3⟩ _ (rankN s3 q.toList) di q.toList wc.heap.size bi _ _ _ _ (whole sc1 lv1 (distinctN s1) sc2 lv2 (distinctN s2) sc3 lv3 (distinctN s3)) wr QDI.out HLW.out.symm HLW.out.symm HCz qlt QAT (by simp) (by rw [HLW.out]; omega) FAr (ents_of HCz (whole_ents _ _ _ _ _ _ _ _ _))).mono ?_
                              rintro e y1 ⟨he, b1⟩
                              rw [HFULL.out] at he
                              subst he
                              have HC1 : Hid (Chain y1 [⟨sc3, lv3, g3', keysOf D3, txt D3⟩, ⟨sc2, lv2, g2', keysOf D2, txt D2⟩, ⟨sc1, lv1, g1', keysOf D1, txt D1⟩]) := Chain.below b1 HCz.out
                              have FD1 : Hid (Full y1 wd.heap.size bj (ups (ent xs zs sc1 sc2 sc3 lv1 lv2 lv3) xs.length ++ downs (ent xs zs sc1 sc2 sc3 lv1 lv2 lv3) xs.length xs.length)) := FD.out.below b1
                              have U1 := uz.below b1
                              obtain ⟨R1, R2, R3⟩ := chosen_rows (lv1 := lv1) (lv2 := lv2) (lv3 := lv3) HC1 HFF (fun k hk => cellB (HPz.out k hk) b1)
                              have HDL : Hid ((dsOf xs zs lv1 lv2 lv3).length = xs.length) := dsOf_length _ _ _ _ _
                              have bz1 : Below w'.heap.size w' y1 := bz.trans (b1.mono bz.size)
                              clear FAr HCz HPz uz bz FD b1 HLW HFULL
                              go_wp2_with fail
                              refine (zzCount_yes ⟨sc3, lv3, g3', keysOf D3, txt D3⟩ [⟨sc2, lv2, g2', keysOf D2, txt D2⟩, ⟨sc1, lv1, g1', keysOf D1, txt D1⟩] (rankN s3 q.toList) di q.toList v3.heap.size _ _ _ _ a5' (scsOf xs sc1 sc2 sc3) zs (dsOf xs zs lv1 lv2 lv3) _ QDI.out (by exact HDL.out.symm) (by first | exact HL.out.trans HDL.out.symm | exact HDL.out.symm) HC1 qlt QAT (by simp) (by rw [HDL.out]; omega) (HL.out.trans HDL.out.symm) R1 U1 R2 R3).mono ?_
                              rintro e y2 ⟨he, b2⟩
                              have HC2 : Hid (Chain y2 [⟨sc3, lv3, g3', keysOf D3, txt D3⟩, ⟨sc2, lv2, g2', keysOf D2, txt D2⟩, ⟨sc1, lv1, g1', keysOf D1, txt D1⟩]) := Chain.below b2 HC1.out
                              have FD2 : Hid (Full y2 wd.heap.size bj (ups (ent xs zs sc1 sc2 sc3 lv1 lv2 lv3) xs.length ++ downs (ent xs zs sc1 sc2 sc3 lv1 lv2 lv3) xs.length xs.length)) := FD1.out.below b2
                              have bz2 : Below w'.heap.size w' y2 := bz1.trans (b2.mono bz1.size)
                              have HDB : Hid (cntUp q.toList ((ups (ent xs zs sc1 sc2 sc3 lv1 lv2 lv3) xs.length ++ downs (ent xs zs sc1 sc2 sc3 lv1 lv2 lv3) xs.length xs.length).map Prod.snd) [⟨sc2, lv2, g2', keysOf D2, txt D2⟩, ⟨sc1, lv1, g1', keysOf D1, txt D1⟩] = cntUp q.toList (dsOf xs zs lv1 lv2 lv3) [⟨sc2, lv2, g2', keysOf D2, txt D2⟩, ⟨sc1, lv1, g1', keysOf D1, txt D1⟩]) := by
                                rw [count_doubled, ups_dsOf]
                                exact rfl
                              generalize cntUp q.toList (dsOf xs zs lv1 lv2 lv3) [⟨sc2, lv2, g2', keysOf D2, txt D2⟩, ⟨sc1, lv1, g1', keysOf D1, txt D1⟩] = oc at he HONCE HDB
                              subst he
                              have hon : (oc : Int) ≤ (d : Int) := by have := HONCE.out; omega
                              clear HONCE R1 R2 R3 U1 HC1 FD1 bz1 b2 HDL
                              go_wp2_with fail
                              refine (countT ⟨sc3, lv3, g3', keysOf D3, txt D3⟩ _ (rankN s3 q.toList) di q.toList wd.heap.size bj _ _ _ _ (ups (ent xs zs sc1 sc2 sc3 lv1 lv2 lv3) xs.length ++ downs (ent xs zs sc1 sc2 sc3 lv1 lv2 lv3) xs.length xs.length) y2 QDI.out HLD.out.symm HLD.out.symm HC2 qlt QAT (by simp) (by rw [HLD.out]; omega) FD2 (ents_of HC2 (ent_ents HFF _ _ _ _ _ _))).mono ?_
                              rintro e y3 ⟨he, b3⟩
                              rw [HDB.out] at he
                              subst he
                              have bz3 : Below w'.heap.size w' y3 := bz2.trans (b3.mono bz2.size)
                              clear HC2 FD2 HDB HLD b3
                              go_wp2
                              go_ret
                              exact ⟨rfl, bz3⟩
end Go.Proofs.Qxb6613624a
namespace Go.Proofs.Qxb6613624a.fnCountAboveOverEveryDefinitionIsTheDepthOfItsName
open Go.ChangeShapes Go.WideShapes Go.ChangeAt Go.RowKit
open Go.ChangeMaps (open_string shut_string)

set_option maxRecDepth 100000 in
theorem lifted (os : Os) (started : os.Started) (H : Type) (enc : TypeId × Value → H) :
    ReturnsInHanded {} Try.checked os 7 .any (Rows.fnCountAboveOverEveryDefinitionIsTheDepthOfItsNameSpec.pre6 enc Try.prog Try.f7 Rows.fnCountAboveOverEveryDefinitionIsTheDepthOfItsNameRow.domain false) (Rows.fnCountAboveOverEveryDefinitionIsTheDepthOfItsNameSpec.post enc Try.prog Try.f7 false true false false) := by
  refine returnsInHanded_of_change (C := Try.checked) own started (by kernel_rfl) Try.func7
    (ChangeSpec.witness6 (enc := enc) (C := Try.checked) false ⟨#[], #[.slice none 0 0, .slice none 0 0, .slice none 0 0, .int .i64 0, .slice none 0 0, .slice none 0 0], []⟩ 8 (by kernel_rfl) (by kernel_rfl) (by kernel_rfl) (by kernel_rfl)) ?_
  intro W base args ds gs before hval0 hW hcnd _
  have hval : ∀ (j : Nat) t v, Try.f7.params[j]? = some t → args[j]? = some v → Value.okWide Try.prog W .any base t v := hval0
  have hW' := hW
  obtain ⟨p, q, hA0, hV, rfl, hfz, hnd⟩ := hW
  have hA : DataW.TrodAll enc Try.prog W 0 (fun _ => true) true Try.f7.params.toList args.toList ds p := hA0
  rw [Try.params7] at hA hval
  obtain ⟨v0, vs0, d0, ds0, p0, q0, hargs, rfl, rfl, h0, r0⟩ := trodAll_cons hA
  obtain ⟨v1, vs1, d1, ds1, p1, q1, rfl, rfl, rfl, h1, r1⟩ := trodAll_cons r0
  obtain ⟨v2, vs2, d2, ds2, p2, q2, rfl, rfl, rfl, h2, r2⟩ := trodAll_cons r1
  obtain ⟨v3, vs3, d3, ds3, p3, q3, rfl, rfl, rfl, h3, r3⟩ := trodAll_cons r2
  obtain ⟨v4, vs4, d4, ds4, p4, q4, rfl, rfl, rfl, h4, r4⟩ := trodAll_cons r3
  obtain ⟨v5, vs5, d5, ds5, p5, q5, rfl, rfl, rfl, h5, r5⟩ := trodAll_cons r4
  obtain ⟨rfl, rfl, rfl⟩ := trodAll_nil r5
  obtain rfl : args = #[v0, v1, v2, v3, v4, v5] := by cases args; simp_all
  obtain ⟨rfl, rfl⟩ := trodVars_none hV
  obtain ⟨a0, len0, cap0, rfl⟩ := okWide_slice Try.underlying22 (hval 0 22 v0 rfl rfl)
  have lt0 : ∀ x ∈ p0, x.block < W.heap.size := by obtain ⟨m, hm⟩ := h0; exact DataW.trod_lt m _ _ _ hm
  obtain ⟨s0, rfl, t0, n0, z0⟩ := view h0
  obtain ⟨a1, len1, cap1, rfl⟩ := okWide_slice Try.underlying22 (hval 1 22 v1 rfl rfl)
  have lt1 : ∀ x ∈ p1, x.block < W.heap.size := by obtain ⟨m, hm⟩ := h1; exact DataW.trod_lt m _ _ _ hm
  obtain ⟨s1, rfl, t1, n1, z1⟩ := view h1
  obtain ⟨a2, len2, cap2, rfl⟩ := okWide_slice Try.underlying22 (hval 2 22 v2 rfl rfl)
  have lt2 : ∀ x ∈ p2, x.block < W.heap.size := by obtain ⟨m, hm⟩ := h2; exact DataW.trod_lt m _ _ _ hm
  obtain ⟨s2, rfl, t2, n2, z2⟩ := view h2
  obtain ⟨a3, rfl, rfl, rfl, w3⟩ := open_int Try.underlying3 (hval 3 3 v3 rfl rfl) h3
  obtain ⟨a4, len4, cap4, rfl⟩ := okWide_slice Try.underlying34 (hval 4 34 v4 rfl rfl)
  have lt4 : ∀ x ∈ p4, x.block < W.heap.size := by obtain ⟨m, hm⟩ := h4; exact DataW.trod_lt m _ _ _ hm
  obtain ⟨s4, rfl, t4, n4, _⟩ := viewInts h4
  obtain ⟨a5, len5, cap5, rfl⟩ := okWide_slice Try.underlying34 (hval 5 34 v5 rfl rfl)
  have lt5 : ∀ x ∈ p5, x.block < W.heap.size := by obtain ⟨m, hm⟩ := h5; exact DataW.trod_lt m _ _ _ hm
  obtain ⟨s5, rfl, t5, n5, _⟩ := viewInts h5
  clear hA0 hval0
  refine (walk7 a0 a1 a2 s0 s1 s2 cap0 cap1 cap2 a3 a4 a5 s4 s5 cap4 cap5 W t0 n0 z0 t1 n1 z1 t2 n2 z2 t4 n4 t5 n5).mono fun e W' ⟨he, bel⟩ => ?_
  subst he
  exact ⟨_, rfl, _, _, _, [], _, [], hW', trodAll_mk1 (shut_bool Try.underlying4 _), (trodAll_cons_mk (Below.trod laidOut (by kernel_rfl) (of_decide_eq_true (by kernel_rfl)) h0 bel lt0) (trodAll_cons_mk (Below.trod laidOut (by kernel_rfl) (of_decide_eq_true (by kernel_rfl)) h1 bel lt1) (trodAll_cons_mk (Below.trod laidOut (by kernel_rfl) (of_decide_eq_true (by kernel_rfl)) h2 bel lt2) (trodAll_cons_mk (shut_int Try.underlying3 w3) (trodAll_cons_mk (Below.trod laidOut (by kernel_rfl) (of_decide_eq_true (by kernel_rfl)) h4 bel lt4) (trodAll_cons_mk (Below.trod laidOut (by kernel_rfl) (of_decide_eq_true (by kernel_rfl)) h5 bel lt5) trodAll_mk0)))))), rfl, bel.frame _, fun h => by cases h⟩

theorem over : Rows.fnCountAboveOverEveryDefinitionIsTheDepthOfItsNameRow.holds Try.pinned (OpenSpec.ofChange Rows.fnCountAboveOverEveryDefinitionIsTheDepthOfItsNameSpec) :=
  OpenClaim.holds_of_wide 7 Try.f7 rfl rfl rfl rfl rfl rfl rfl ⟨rfl, rfl, rfl, rfl, rfl⟩ rfl rfl rfl rfl rfl (by kernel_rfl) Try.func7 (by kernel_rfl)
    (of_decide_eq_true (by kernel_rfl)) (by unfold Func.isWrapper; first | (rw [if_pos (by decide +kernel)]; kernel_rfl) | (rw [if_neg (by decide +kernel)]; exact ⟨rfl, rfl⟩))
    (fun os started H enc _ => lifted os started H enc)

/-- THE STATEMENT. -/
theorem proved : Rows.FnCountAboveOverEveryDefinitionIsTheDepthOfItsNameSaid :=
  over
end Go.Proofs.Qxb6613624a.fnCountAboveOverEveryDefinitionIsTheDepthOfItsName
