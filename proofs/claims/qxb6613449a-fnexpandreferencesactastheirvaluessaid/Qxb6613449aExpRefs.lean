/- The walk of FnExpandReferencesActAsTheirValues. -/
import Derived.Test.Qxb6613449aExpFill
import Derived.Test.Qxb6613449aExpLens
import Derived.Test.Qxb6613449aExpBytes
import Derived.Test.Qxb6613449aExpText
import Derived.Deep.DeepCutAuto
import Derived.Deep.RegionHeld3
namespace Go.Proofs.Qxb6613449a.ex
open Go.ChangeShapes Go.WideShapes Go.ChangeAt Go.RowKit

set_option maxRecDepth 100000 in
set_option maxHeartbeats 4000000 in
theorem refs_walk (a0 a1 a2 a3 : Option Addr) (n0 n1 n2 n3 c0 c1 c2 c3 : Nat) (S0 S1 S2 S3 : Nat → ByteArray) (w : World)
    (hs0 : Hid (IsStrs w a0 n0 S0)) (hs1 : Hid (IsStrs w a1 n1 S1)) (hs2 : Hid (IsStrs w a2 n2 S2)) (hs3 : Hid (IsStrs w a3 n3 S3))
    (hz0 : Hid (∀ j, j < n0 → (S0 j).size ≤ maxLen)) (hz1 : Hid (∀ j, j < n1 → (S1 j).size ≤ maxLen)) (hz2 : Hid (∀ j, j < n2 → (S2 j).size ≤ maxLen)) (hz3 : Hid (∀ j, j < n3 → (S3 j).size ≤ maxLen))
    (hn0 : Hid (n0 ≤ maxLen)) (hn1 : Hid (n1 ≤ maxLen)) (hn2 : Hid (n2 ≤ maxLen)) (hn3 : Hid (n3 ≤ maxLen))
    (e0 : Hid (a0 = none → n0 = 0 ∧ c0 = 0)) (e1 : Hid (a1 = none → n1 = 0 ∧ c1 = 0)) :
    Calls Try.prog 5 #[.slice a0 n0 c0, .slice a1 n1 c1, .slice a2 n2 c2, .slice a3 n3 c3] w fun e w' => e = .returned (.bool true) ∧ Below w.heap.size w w' := by
  obtain ⟨i0, hi, hy0, hy1, hy2⟩ := info_parts info9
  have hq0 := nil_test a0 n0 c0
  go_enter Try.func5, Try.ntmps5
  go_upto_if 27 with (go_at_call 13; refine (bytes13_any a0 a1 a2 a3 n0 n1 n2 n3 c0 c1 c2 c3 S0 S1 S2 S3 _ hs0 hs1 hs2 hs3).mono ?_; rintro e w' ⟨hw', b, rfl, hb⟩; rw [hw']; have HB0 := hide hb; clear hw' w' hb)
  · go_ret
    exact ⟨rfl, Below.refl _ _⟩
  clear hq0
  have hb : b = true := by
    cases b
    · contradiction
    · rfl
  subst hb
  obtain ⟨m0, m1⟩ := HB0.out rfl
  clear HB0
  go_cut [0] (fun v wc => ∃ la, v = .slice la n0 n0 ∧ IsStrs wc la n0 S0 ∧ Below w.heap.size w wc)
  case first =>
    cases a0 with
    | none =>
      obtain ⟨rfl, rfl⟩ := e0.out rfl
      go_wp2
      go_meet
      case rel => exact ⟨none, rfl, fun h => absurd h (by omega), Below.refl _ _⟩
    | some ad =>
      go_wp2_with (first
        | (at_make; refine wpList_make_full _ rfl _ _ 23 rfl w.heap.size 9 i0 (.string ⟨#[]⟩) 1 Try.underlying23 hi hy0 hy1 _ _ _ _ n0 rfl rfl (by omega) (by omega) (by rw [hy2]; omega) (by unfold maxLen; omega) (Nat.le_refl _) ?_; intro w1 hown1 hgrow1; have bel1 := (Below.refl w.heap.size w).grown hgrow1 (Nat.le_refl _) (fun _ h => by cases h); obtain ⟨w2, hrun, hI2, hB2⟩ := run_copy_strs (c := c0) (made_row hown1) (hs0.out.below bel1) bel1; have HI := hide hI2; have HB := hide hB2; clear hown1 hgrow1 bel1 hI2 hB2))
      go_meet
      case rel => exact ⟨_, rfl, HI.out, HB.out⟩
  case rest =>
    obtain ⟨la, rfl, hI, hB⟩ := hcut
    have HI0 := hide hI
    have HB0 := hide hB
    clear hI hB e0
    have hq1 := nil_test a1 n1 c1
    go_upto_if 36 with fail
    clear hq1
    go_cut [1] (fun v wd => ∃ lb, v = .slice lb n1 n1 ∧ IsStrs wd lb n1 S1 ∧ IsStrs wd la n0 S0 ∧ Below w.heap.size w wd)
    case first =>
      cases a1 with
      | none =>
        obtain ⟨rfl, rfl⟩ := e1.out rfl
        go_wp2
        go_meet
        case rel => exact ⟨none, rfl, fun h => absurd h (by omega), HI0.out, HB0.out⟩
      | some ad =>
        go_wp2_with (first
          | (at_make; refine wpList_make_full _ rfl _ _ 23 rfl w.heap.size 9 i0 (.string ⟨#[]⟩) 1 Try.underlying23 hi hy0 hy1 _ _ _ _ n1 rfl rfl (by omega) (by omega) (by rw [hy2]; omega) (by unfold maxLen; omega) (by exact HB0.out.size) ?_; intro w1 hown1 hgrow1; have bel1 := HB0.out.grown hgrow1 HB0.out.size (fun _ h => by cases h); have bel2 := (Below.refl wc.heap.size wc).grown hgrow1 (Nat.le_refl _) (fun _ h => by cases h); obtain ⟨w2, hrun, hI2, hB2⟩ := run_copy_strs (c := c1) (B := wc.heap.size) (w0 := wc) (by have h3 := made_row hown1; exact ⟨Nat.le_refl _, h3.2.1, h3.2.2⟩) (hs1.out.below bel1) bel2; have HI := hide hI2; have HI0' := hide (HI0.out.below hB2); have HB := hide (HB0.out.trans (hB2.mono HB0.out.size)); clear hown1 hgrow1 bel1 bel2 hI2 hB2))
        go_meet
        case rel => exact ⟨_, rfl, HI.out, HI0'.out, HB.out⟩
    case rest =>
      obtain ⟨lb, rfl, hI1, hI0, hB⟩ := hcut
      have HI1 := hide hI1
      have HI0 := hide hI0
      have HB := hide hB
      clear hI1 hI0 hB HB0 e1
      have HI2 := hide (hs2.out.below HB.out)
      have HI3 := hide (hs3.out.below HB.out)
      go_wp2_with fail
      refine (addLens_any _ la n0 n0 S0 _ (by omega) (by omega) hn0.out HI0 hz0).mono ?_
      rintro e w' ⟨hw', r0, rfl, hr⟩
      rw [hw']
      have R0 := hide hr
      clear hw' w' hr
      go_wp2_with fail
      · go_ret
        exact ⟨rfl, HB.out⟩
      have g0 : r0 ≤ 1048576 := by assumption
      have z0 : 0 ≤ r0 := by rw [R0.out g0]; omega
      refine (addLens_any _ lb n1 n1 S1 _ (by omega) (by omega) hn1.out HI1 hz1).mono ?_
      rintro e w' ⟨hw', r1, rfl, hr⟩
      rw [hw']
      have R1 := hide hr
      clear hw' w' hr
      go_wp2_with fail
      · go_ret
        exact ⟨rfl, HB.out⟩
      have g1 : r1 ≤ 1048576 := by assumption
      have z1 : 0 ≤ r1 := by rw [R1.out g1]; omega
      refine (addLens_any _ a2 n2 c2 S2 _ (by omega) (by omega) hn2.out HI2 hz2).mono ?_
      rintro e w' ⟨hw', r2, rfl, hr⟩
      rw [hw']
      have R2 := hide hr
      clear hw' w' hr
      go_wp2_with fail
      · go_ret
        exact ⟨rfl, HB.out⟩
      have g2 : r2 ≤ 1048576 := by assumption
      have z2 : 0 ≤ r2 := by rw [R2.out g2]; omega
      refine (addLens_any _ a3 n3 c3 S3 _ (by omega) (by omega) hn3.out HI3 hz3).mono ?_
      rintro e w' ⟨hw', r3, rfl, hr⟩
      rw [hw']
      have R3 := hide hr
      clear hw' w' hr
      by_cases g3 : r3 ≤ 1048576
      rotate_left
      · go_wp2
        go_ret
        exact ⟨rfl, HB.out⟩
      have T : Hid (tot S0 n0 + tot S1 n1 + tot S2 n2 + tot S3 n3 ≤ 1048576) := by
        have q0 := R0.out g0
        have q1 := R1.out g1
        have q2 := R2.out g2
        have q3 := R3.out g3
        show _ ≤ _
        omega
      by_cases e01 : n0 = n1
      rotate_left
      · have : ((n0 : Int) != (n1 : Int)) = true := by simp; omega
        go_wp2
        go_ret
        exact ⟨rfl, HB.out⟩
      subst e01
      by_cases e23 : n2 = n3
      rotate_left
      · have : ((n2 : Int) != (n3 : Int)) = true := by simp; omega
        go_wp2
        go_ret
        exact ⟨rfl, HB.out⟩
      subst e23
      by_cases hq0 : 4096 < n2
      · go_wp2
        go_ret
        exact ⟨rfl, HB.out⟩
      have hN0 : n0 ≤ 65536 := by have := tot_len S0 n0; have := T.out; omega
      have hN2 : n2 ≤ 65536 := by omega
      have hlz : Hid (∀ j, j < n0 → (S0 j).size ≤ 1048576) := fun j hj => by have := size_le_tot S0 n0 j hj; have := T.out; omega
      have hvz : Hid (∀ j, j < n0 → (S1 j).size ≤ 1048576) := fun j hj => by have := size_le_tot S1 n0 j hj; have := T.out; omega
      have hez : Hid (∀ x, (lastOf S2 S3 n2 x).size ≤ 1048576) := fun x => lastOf_size S2 S3 n2 _ (fun j hj => by have := size_le_tot S3 n2 j hj; have := T.out; omega) x
      have hV : Hid (∀ j, j < n0 → (S1 j).size ≤ maxLen) := fun j hj => by have := hvz.out j hj; unfold maxLen; omega
      clear R0 R1 R2 R3 g0 g1 g2 z0 z1 z2 m0 m1 hn0 hn1 hn2 hn3 T hs0 hs1 hs2 hs3 hz0 hz1
      obtain ⟨F, hF⟩ : ∃ F : Nat → ByteArray, F = fun j => pick (lastOf S2 S3 n2) (S0 j) (S1 j) := ⟨_, rfl⟩
      have HF := hide hF
      clear hF
      go_wp2_with (first
        | (at_make; refine wpList_make_full _ rfl _ (.tmp 80) 23 rfl wc.heap.size 9 i0 (.string ⟨#[]⟩) 1 Try.underlying23 hi hy0 hy1 _ _ _ _ n0 rfl rfl (by omega) (by omega) (by rw [hy2]; omega) (by unfold maxLen; omega) (Nat.le_refl _) ?_; intro w1 o1 gr1; have B1 := hide ((Below.refl wc.heap.size wc).grown gr1 (Nat.le_refl _) (fun _ h => by cases h)); have O1 := hide o1; clear o1 gr1)
        | (at_make; refine wpList_make_full _ rfl _ (.tmp 82) 23 rfl w1.heap.size 9 i0 (.string ⟨#[]⟩) 1 Try.underlying23 hi hy0 hy1 _ _ _ _ n0 rfl rfl (by omega) (by omega) (by rw [hy2]; omega) (by unfold maxLen; omega) (Nat.le_refl _) ?_; intro w2 o2 gr2; have B2 := hide ((Below.refl w1.heap.size w1).grown gr2 (Nat.le_refl _) (fun _ h => by cases h)); have O2 := hide o2; clear o2 gr2))
      have F0 := hide (Fill.start (F := F) O1.out B1.out O2.out B2.out)
      clear B1 B2 O1 O2 g3
      generalize w1.heap.size = h at F0 ⊢
      obtain ⟨g, hg⟩ : ∃ g, wc.heap.size = g := ⟨_, rfl⟩
      rw [hg] at F0 ⊢
      clear hg
      go_loopw [15, 16] (fun t i wr => ∃ k : Nat, k ≤ n0 ∧ i = .int .i64 k ∧ (outP F k).length ≤ 4194304 ∧ t = .int .i64 (outP F k).length ∧ Fill wc wr n0 g h F k) (fun _ i _ => n0 - (intOf i).toNat)
      case atStart => exact ⟨0, Nat.zero_le _, rfl, by simp [outP], by simp [outP], F0.out⟩
      case round =>
        clear F0
        obtain ⟨k, hkn, rfl, hlen, rfl, hfill⟩ := hrel
        have FK := hide hfill
        clear hfill
        by_cases hlt : k < n0
        · obtain ⟨b, off, rfl, hb, hc⟩ := HI0.out (by omega)
          obtain ⟨b2, off2, rfl, hb2, hc2⟩ := HI1.out (by omega)
          have k0 := hc k hlt
          have k1 := hc2 k hlt
          rw [← FK.out.below.cell (p := ⟨b, off + k, none⟩) hb] at k0
          rw [← FK.out.below.cell (p := ⟨b2, off2 + k, none⟩) hb2] at k1
          obtain ⟨v, cv, fv⟩ := FK.out.spot hlt
          clear hc hc2
          have y0 := hlz.out k hlt
          have HO : Hid ((outP F (k + 1)).length = (outP F k).length + (F k).size) := by simp [outP, Hid]
          have FK1 := hide (FK.out.step hlt)
          have FKd := hide (FK.out.drew.step hlt)
          have hfk : Hid ((F k).size ≤ 1048576) := by
            show _ ≤ _
            rw [HF.out]
            unfold pick
            dsimp only
            split
            · exact y0
            · exact hez.out _
          cases hvv : (S1 k).toList.isEmpty
          · have hFk : Hid (F k = lastOf S2 S3 n2 (S1 k)) := by
              show _ = _
              rw [HF.out]
              simp [pick, hvv]
            have cs : (wr.setCell ⟨g, k, none⟩ (.string (F k))).cell? ⟨g, k, none⟩ = some (.string (F k)) := World.cell?_setCell_same _ _ _ cv
            have y1 := hfk.out
            go_wp2_with fail
            refine (lookup_any a2 a3 n2 c2 c3 S2 S3 (S1 k) _ (by omega) (HI2.out.below FK.out.below) (HI3.out.below FK.out.below)).mono ?_
            rintro e w' ⟨rfl, hw'⟩
            rw [hw', ← hFk.out]
            clear hw' w'
            go_wp2
            · go_ret
              exact ⟨rfl, HB.out.trans (FK1.out.below.mono HB.out.size)⟩
            · have e := HO.out
              exact ⟨⟨k + 1, by omega, by go_num, by omega, by rw [e]; go_num, FK1.out⟩, by simp [intOf]; omega⟩
          · have hFk : F k = S0 k := by
              rw [HF.out]
              simp [pick, hvv]
            rw [hFk] at FK1 HO
            have cs : (wr.setCell ⟨g, k, none⟩ (.string (S0 k))).cell? ⟨g, k, none⟩ = some (.string (S0 k)) := World.cell?_setCell_same _ _ _ cv
            clear hfk hFk
            go_wp2
            · go_ret
              exact ⟨rfl, HB.out.trans (FK1.out.below.mono HB.out.size)⟩
            · have e := HO.out
              exact ⟨⟨k + 1, by omega, by go_num, by omega, by rw [e]; go_num, FK1.out⟩, by simp [intOf]; omega⟩
        · have hkn2 : k = n0 := by omega
          subst hkn2
          have RT : Hid (Rt w wr la lb g h k S0 S1 F) := ⟨HB.out.trans (FK.out.below.mono HB.out.size), HI0.out.below FK.out.below, HI1.out.below FK.out.below, FK.out.strs, FK.out.empt⟩
          have KI2 := hide (HI2.out.below FK.out.below)
          have KI3 := hide (HI3.out.below FK.out.below)
          have hl1 : Hid ((outN (lastOf S2 S3 n2) S0 S1 k).length ≤ 100000000) := by
            show _ ≤ _
            rw [outN_pick _ S0 S1 k F HF.out]
            omega
          have hl2 : Hid ((outP F k).length ≤ 100000000) := by
            show _ ≤ _
            omega
          have hl3 : Hid ((outN (lastOf noStr noStr 0) F noStr k).length ≤ 100000000) := by
            show _ ≤ _
            rw [outN_flat]
            omega
          clear FK HI0 HI1 HI2 HI3 HB hlen
          go_wp2_with fail
          refine (env_any a2 a3 n2 c2 c3 S2 S3 _ (by omega) KI2 KI3 hz2 hz3).mono ?_
          rintro e w3 ⟨rfl, ⟨o, ho, hE⟩, hb3⟩
          have HE := hide hE
          have HO := hide ho
          have RT3 := hide (RT.out.step hb3)
          clear ho hE hb3 RT KI2 KI3
          generalize wr.heap.size = r at HO ⊢
          go_wp2_with fail
          refine (newText_any la lb k k k S0 S1 _ (by omega) RT3.out.lits RT3.out.vars).mono ?_
          rintro e w4 ⟨pa, rfl, hpa, hb4⟩
          have HPA := hide hpa
          have RT4 := hide (RT3.out.step hb4)
          have HO4 : Hid (w4.heap[r]? = some o) := (hb4.block r (lt_of_block HO.out)).trans HO.out
          clear hpa hb4 RT3 HO
          go_wp2_with fail
          refine (expandWith_any pa k k r o (lastOf S2 S3 n2) S0 S1 _ (by omega) HPA hV hl1 HO4 HE).mono ?_
          rintro e w5 ⟨rfl, hb5⟩
          have RT5 := hide (RT4.out.step hb5)
          rw [outN_pick _ S0 S1 k F HF.out]
          clear hb5 RT4 HPA HO4 HE hl1
          go_wp2_with fail
          refine (newText_any (some ⟨g, 0, none⟩) (some ⟨h, 0, none⟩) k k k F noStr _ (by omega) RT5.out.fl RT5.out.fv).mono ?_
          rintro e w6 ⟨pb, rfl, hpb, hb6⟩
          have HPB := hide hpb
          have RT6 := hide (RT5.out.step hb6)
          clear hpb hb6 RT5
          go_wp2_with fail
          refine (env_any none none 0 0 0 noStr noStr _ (by omega) (fun h => absurd h (by omega)) (fun h => absurd h (by omega)) (fun j hj => absurd hj (by omega)) (fun j hj => absurd hj (by omega))).mono ?_
          rintro e w7 ⟨rfl, ⟨o2, ho2, hE2⟩, hb7⟩
          have HE2 := hide hE2
          have HO2 := hide ho2
          have RT7 := hide (RT6.out.step hb7)
          have HPB7 := hide (HPB.out.below hb7)
          clear ho2 hE2 hb7 RT6 HPB
          generalize w6.heap.size = r2 at HO2 ⊢
          go_wp2_with fail
          refine (expandWith_any pb k k r2 o2 (lastOf noStr noStr 0) F noStr _ (by omega) HPB7 (fun j _ => Nat.zero_le _) hl3 HO2 HE2).mono ?_
          rintro e w8 ⟨rfl, hb8⟩
          have RT8 := hide (RT7.out.step hb8)
          rw [outN_flat]
          clear hb8 RT7 HPB7 HO2 HE2 hl3
          generalize hX : (⟨(outP F k).toArray⟩ : ByteArray) = X
          have HX := hide hX
          clear hX
          have hxx : (X.toList == X.toList) = true := by simp
          go_wp2_with fail
          refine (join_any (some ⟨g, 0, none⟩) k k F _ (by omega) RT8.out.fl hl2).mono ?_
          rintro e w9 ⟨rfl, hb9⟩
          have RT9 := hide (RT8.out.step hb9)
          rw [HX.out]
          clear hb9 RT8
          go_wp2
          go_ret
          exact ⟨ret_bool (by first | rfl | simp_all), RT9.out.below⟩
end Go.Proofs.Qxb6613449a.ex
