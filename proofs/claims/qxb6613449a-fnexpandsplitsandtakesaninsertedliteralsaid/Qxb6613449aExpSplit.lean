/- The walk of FnExpandSplitsAndTakesAnInsertedLiteral. -/
import Derived.Test.Qxb6613449aExpCopy
import Derived.Test.Qxb6613449aExpLens
import Derived.Test.Qxb6613449aExpBytes
import Derived.Test.Qxb6613449aExpText
import Derived.Test.Qxb6613449aExpEnv
import Derived.Test.Qxb6613449aExpLaw
import Derived.Deep.DeepCutAuto
import Derived.Deep.RegionHeld3
import Derived.Deep.AppendLies
namespace Go.Proofs.Qxb6613449a.ex
open Go.ChangeShapes Go.WideShapes Go.ChangeAt Go.RowKit

theorem neq_nil (a : Option Addr) (n c : Nat) (w : World) : (binOp .neq 23 (.slice a n c) (.slice none 0 0)).run Try.prog w = .ok (.bool a.isSome) w := by
  cases a <;> kernel_rfl

/-- what every later step keeps -/
structure St (w wx : World) (la lb : Option Addr) (n : Nat) (S0 S1 : Nat → ByteArray) (r : Nat) (o : Obj) : Prop where
  below : Below w.heap.size w wx
  lits : IsStrs wx la n S0
  vars : IsStrs wx lb n S1
  env : wx.heap[r]? = some o

theorem St.step {w wx wy : World} {la lb : Option Addr} {n : Nat} {S0 S1 : Nat → ByteArray} {r : Nat} {o : Obj} (h : St w wx la lb n S0 S1 r o) (hb : Below wx.heap.size wx wy) : St w wy la lb n S0 S1 r o :=
  ⟨h.below.trans (hb.mono h.below.size), h.lits.below hb, h.vars.below hb, (hb.block r (lt_of_block h.env)).trans h.env⟩

theorem St.drew {w wx : World} {la lb : Option Addr} {n : Nat} {S0 S1 : Nat → ByteArray} {r : Nat} {o : Obj} (h : St w wx la lb n S0 S1 r o) : St w wx.drew la lb n S0 S1 r o :=
  h.step (Below.refl _ wx).drew

set_option maxRecDepth 100000 in
set_option maxHeartbeats 4000000 in
theorem split_walk (a0 a1 a2 a3 : Option Addr) (n0 n1 n2 n3 c0 c1 c2 c3 : Nat) (S0 S1 S2 S3 : Nat → ByteArray) (q : Int) (s : ByteArray) (w : World)
    (hs0 : Hid (IsStrs w a0 n0 S0)) (hs1 : Hid (IsStrs w a1 n1 S1)) (hs2 : Hid (IsStrs w a2 n2 S2)) (hs3 : Hid (IsStrs w a3 n3 S3))
    (hz0 : Hid (∀ j, j < n0 → (S0 j).size ≤ maxLen)) (hz1 : Hid (∀ j, j < n1 → (S1 j).size ≤ maxLen)) (hz2 : Hid (∀ j, j < n2 → (S2 j).size ≤ maxLen)) (hz3 : Hid (∀ j, j < n3 → (S3 j).size ≤ maxLen))
    (hn0 : Hid (n0 ≤ maxLen)) (hn1 : Hid (n1 ≤ maxLen)) (hn2 : Hid (n2 ≤ maxLen)) (hn3 : Hid (n3 ≤ maxLen))
    (e0 : Hid (a0 = none → n0 = 0 ∧ c0 = 0)) (e1 : Hid (a1 = none → n1 = 0 ∧ c1 = 0)) :
    Calls Try.prog 4 #[.slice a0 n0 c0, .slice a1 n1 c1, .slice a2 n2 c2, .slice a3 n3 c3, .int .i64 q, .string s] w fun e w' => e = .returned (.bool true) ∧ Below w.heap.size w w' := by
  obtain ⟨i0, hi, hy0, hy1, hy2⟩ := info_parts info9
  by_cases hsl : s.size ≤ 1048576
  rotate_left
  · go_enter Try.func4, Try.ntmps4
    go_wp2_with (go_at_call 7; refine (bytes7_any a0 a1 a2 a3 n0 n1 n2 n3 c0 c1 c2 c3 S0 S1 S2 S3 q s _ hs0 hs1 hs2 hs3).mono ?_; rintro e w' ⟨hw', b, rfl, hb⟩; rw [hw']; have HB0 := hide hb; clear hw' w' hb)
    all_goals go_ret
    all_goals exact ⟨rfl, Below.refl _ _⟩
  have hq0 := neq_nil a0 n0 c0
  go_enter Try.func4, Try.ntmps4
  go_upto_if 35 with (go_at_call 7; refine (bytes7_any a0 a1 a2 a3 n0 n1 n2 n3 c0 c1 c2 c3 S0 S1 S2 S3 q s _ hs0 hs1 hs2 hs3).mono ?_; rintro e w' ⟨hw', b, rfl, hb⟩; rw [hw']; have HB0 := hide hb; clear hw' w' hb)
  · go_ret
    exact ⟨rfl, Below.refl _ _⟩
  clear hq0
  have hb : b = true := by
    cases b
    · contradiction
    · rfl
  subst hb
  obtain ⟨m0, m1⟩ := HB0.out rfl
  clear HB0
  go_cut [0] (fun v wc => ∃ la, v = .slice la n0 n0 ∧ IsStrs wc la n0 S0 ∧ Below w.heap.size w wc)
  case first =>
    cases a0 with
    | none =>
      obtain ⟨rfl, rfl⟩ := e0.out rfl
      go_wp2
      go_meet
      case rel => exact ⟨none, rfl, fun h => absurd h (by omega), Below.refl _ _⟩
    | some ad =>
      go_wp2_with (first
        | (at_make; refine wpList_make_full _ rfl _ _ 23 rfl w.heap.size 9 i0 (.string ⟨#[]⟩) 1 Try.underlying23 hi hy0 hy1 _ _ _ _ n0 rfl rfl (by omega) (by omega) (by rw [hy2]; omega) (by unfold maxLen; omega) (Nat.le_refl _) ?_; intro w1 hown1 hgrow1; have bel1 := (Below.refl w.heap.size w).grown hgrow1 (Nat.le_refl _) (fun _ h => by cases h); obtain ⟨w2, hrun, hI2, hB2⟩ := run_copy_strs (c := c0) (made_row hown1) (hs0.out.below bel1) bel1; have HI := hide hI2; have HB := hide hB2; clear hown1 hgrow1 bel1 hI2 hB2))
      go_meet
      case rel => exact ⟨_, rfl, HI.out, HB.out⟩
  case rest =>
    obtain ⟨la, rfl, hI, hB⟩ := hcut
    have HI0 := hide hI
    have HB0 := hide hB
    clear hI hB e0
    have hq1 := neq_nil a1 n1 c1
    go_upto_if 44 with fail
    clear hq1
    go_cut [1] (fun v wd => ∃ lb, v = .slice lb n1 n1 ∧ IsStrs wd lb n1 S1 ∧ IsStrs wd la n0 S0 ∧ Below w.heap.size w wd)
    case first =>
      cases a1 with
      | none =>
        obtain ⟨rfl, rfl⟩ := e1.out rfl
        go_wp2
        go_meet
        case rel => exact ⟨none, rfl, fun h => absurd h (by omega), HI0.out, HB0.out⟩
      | some ad =>
        go_wp2_with (first
          | (at_make; refine wpList_make_full _ rfl _ _ 23 rfl w.heap.size 9 i0 (.string ⟨#[]⟩) 1 Try.underlying23 hi hy0 hy1 _ _ _ _ n1 rfl rfl (by omega) (by omega) (by rw [hy2]; omega) (by unfold maxLen; omega) (by exact HB0.out.size) ?_; intro w1 hown1 hgrow1; have bel1 := HB0.out.grown hgrow1 HB0.out.size (fun _ h => by cases h); have bel2 := (Below.refl wc.heap.size wc).grown hgrow1 (Nat.le_refl _) (fun _ h => by cases h); obtain ⟨w2, hrun, hI2, hB2⟩ := run_copy_strs (c := c1) (B := wc.heap.size) (w0 := wc) (by have h3 := made_row hown1; exact ⟨Nat.le_refl _, h3.2.1, h3.2.2⟩) (hs1.out.below bel1) bel2; have HI := hide hI2; have HI0' := hide (HI0.out.below hB2); have HB := hide (HB0.out.trans (hB2.mono HB0.out.size)); clear hown1 hgrow1 bel1 bel2 hI2 hB2))
        go_meet
        case rel => exact ⟨_, rfl, HI.out, HI0'.out, HB.out⟩
    case rest =>
      obtain ⟨lb, rfl, hI1, hI0, hB⟩ := hcut
      have HI1 := hide hI1
      have HI0 := hide hI0
      have HB := hide hB
      clear hI1 hI0 hB HB0 e1
      have HI2 := hide (hs2.out.below HB.out)
      have HI3 := hide (hs3.out.below HB.out)
      go_wp2_with fail
      refine (addLens_any _ la n0 n0 S0 _ (by omega) (by omega) hn0.out HI0 hz0).mono ?_
      rintro e w' ⟨hw', r0, rfl, hr⟩
      rw [hw']
      have R0 := hide hr
      clear hw' w' hr
      go_wp2_with fail
      · go_ret
        exact ⟨rfl, HB.out⟩
      have g0 : r0 ≤ 1048576 := by assumption
      have z0 : 0 ≤ r0 := by rw [R0.out g0]; omega
      refine (addLens_any _ lb n1 n1 S1 _ (by omega) (by omega) hn1.out HI1 hz1).mono ?_
      rintro e w' ⟨hw', r1, rfl, hr⟩
      rw [hw']
      have R1 := hide hr
      clear hw' w' hr
      go_wp2_with fail
      · go_ret
        exact ⟨rfl, HB.out⟩
      have g1 : r1 ≤ 1048576 := by assumption
      have z1 : 0 ≤ r1 := by rw [R1.out g1]; omega
      refine (addLens_any _ a2 n2 c2 S2 _ (by omega) (by omega) hn2.out HI2 hz2).mono ?_
      rintro e w' ⟨hw', r2, rfl, hr⟩
      rw [hw']
      have R2 := hide hr
      clear hw' w' hr
      go_wp2_with fail
      · go_ret
        exact ⟨rfl, HB.out⟩
      have g2 : r2 ≤ 1048576 := by assumption
      have z2 : 0 ≤ r2 := by rw [R2.out g2]; omega
      refine (addLens_any _ a3 n3 c3 S3 _ (by omega) (by omega) hn3.out HI3 hz3).mono ?_
      rintro e w' ⟨hw', r3, rfl, hr⟩
      rw [hw']
      have R3 := hide hr
      clear hw' w' hr
      by_cases g3 : r3 ≤ 1048576
      rotate_left
      · go_wp2
        go_ret
        exact ⟨rfl, HB.out⟩
      have T : Hid (s.size + tot S0 n0 + tot S1 n1 + tot S2 n2 + tot S3 n3 ≤ 1048576) := by
        have q0 := R0.out g0
        have q1 := R1.out g1
        have q2 := R2.out g2
        have q3 := R3.out g3
        show _ ≤ _
        omega
      by_cases e01 : n0 = n1
      rotate_left
      · have : ((n0 : Int) != (n1 : Int)) = true := by simp; omega
        go_wp2
        go_ret
        exact ⟨rfl, HB.out⟩
      subst e01
      by_cases e23 : n2 = n3
      rotate_left
      · have : ((n2 : Int) != (n3 : Int)) = true := by simp; omega
        go_wp2
        go_ret
        exact ⟨rfl, HB.out⟩
      subst e23
      by_cases hq0 : q < 0
      · go_wp2
        go_ret
        exact ⟨rfl, HB.out⟩
      by_cases hq1 : (n0 : Int) < q
      · go_wp2
        go_ret
        exact ⟨rfl, HB.out⟩
      obtain ⟨k, rfl⟩ : ∃ k : Nat, q = k := ⟨q.toNat, by omega⟩
      have hkn : k ≤ n0 := by omega
      have hN0 : n0 ≤ 65536 := by have := tot_len S0 n0; have := T.out; omega
      have hN2 : n2 ≤ 65536 := by have := tot_len S2 n2; have := T.out; omega
      clear hq0 hq1 R0 R1 R2 R3 g0 g1 g2 z0 z1 z2 m0 m1 hn0 hn1 hn2 hn3
      go_wp2_with fail
      refine (env_any a2 a3 n2 c2 c3 S2 S3 _ (by omega) HI2 HI3 hz2 hz3).mono ?_
      rintro e w3 ⟨rfl, ⟨o, ho, hE⟩, hb3⟩
      have HE := hide hE
      have ST : Hid (St w w3 la lb n0 S0 S1 wc.heap.size o) := ⟨HB.out.trans (hb3.mono HB.out.size), HI0.out.below hb3, HI1.out.below hb3, ho⟩
      have hlz : Hid (∀ j, j < n0 → (S0 j).size ≤ 1048576) := fun j hj => by have := size_le_tot S0 n0 j hj; have := T.out; omega
      have hvz : Hid (∀ j, j < n0 → (S1 j).size ≤ 1048576) := fun j hj => by have := size_le_tot S1 n0 j hj; have := T.out; omega
      have hez : Hid (∀ x, (lastOf S2 S3 n2 x).size ≤ 1048576) := fun x => lastOf_size S2 S3 n2 _ (fun j hj => by have := size_le_tot S3 n2 j hj; have := T.out; omega) x
      have hV : Hid (∀ j, j < n0 → (S1 j).size ≤ maxLen) := fun j hj => by have := hvz.out j hj; unfold maxLen; omega
      clear ho hE hb3 HI0 HI1 HI2 HI3 HB g3 T hs0 hs1 hs2 hs3 hz0 hz1 hz2 hz3
      generalize lastOf S2 S3 n2 = E at HE hez
      generalize wc.heap.size = r at ST
      go_wp2_with fail
      refine (outLen_any la lb n0 n0 n0 r o E S0 S1 _ (by omega) ST.out.lits ST.out.vars hlz hvz hez ST.out.env HE).mono ?_
      rintro e w' ⟨hw', qo, rfl, hq0, hq1, hq2⟩
      rw [hw']
      have HQ := hide hq2
      clear hw' w' hq2
      go_wp2_with fail
      · go_ret
        exact ⟨rfl, ST.out.below⟩
      have hlen : Hid ((outN E S0 S1 n0).length ≤ 4194304) := by
        have := HQ.out (by omega)
        show _ ≤ _
        omega
      clear HQ hq0 hq1
      have hlen2 : Hid ((outN E S0 S1 n0).length ≤ 100000000) := Nat.le_trans hlen.out (by omega)
      refine (newText_any la lb n0 n0 n0 S0 S1 _ (by omega) ST.out.lits ST.out.vars).mono ?_
      rintro e w4 ⟨pa, rfl, hpa, hb4⟩
      have HPA := hide hpa
      have ST4 := hide (ST.out.step hb4)
      clear hpa hb4 ST
      go_wp2_with fail
      refine (expandWith_any pa n0 n0 r o E S0 S1 _ (by omega) HPA hV hlen2 ST4.out.env HE).mono ?_
      rintro e w5 ⟨rfl, hb5⟩
      have ST5 := hide (ST4.out.step hb5)
      clear hb5 ST4 HPA
      generalize hW : (⟨(outN E S0 S1 n0).toArray⟩ : ByteArray) = W
      have HW := hide hW
      clear hW
      go_wp2_with fail
      have hVk : Hid (∀ j, j < k → (S1 j).size ≤ maxLen) := fun j hj => hV.out j (by omega)
      have hlenk : Hid ((outN E S0 S1 k).length ≤ 100000000) := Nat.le_trans (outN_le E S0 S1 hkn) hlen2.out
      go_region_held3 (fun _ => True) (trivial)
        (first
          | (go_at_call 12; refine (newText_any la lb k n0 n0 S0 S1 _ (by omega) (ST5.out.drew.lits.take hkn) (ST5.out.drew.vars.take hkn)).mono ?_; rintro e w6 ⟨pa, rfl, hpa, hb6⟩; have HPA := hide hpa; have ST6 := hide (ST5.out.drew.step hb6); clear hpa hb6)
          | (go_at_call 11; refine (expandWith_any pa k k r o E S0 S1 _ (by omega) HPA hVk hlenk ST6.out.env HE).mono ?_; rintro e w7 ⟨rfl, hb7⟩; have ST7 := hide (ST6.out.step hb7); clear hb7 HPA))
      clear ST5 ST6 hVk hlenk
      generalize hX : (⟨(outN E S0 S1 k).toArray⟩ : ByteArray) = X
      have HX := hide hX
      clear hX
      go_wp2_with fail
      have hVd : Hid (∀ j, j < n0 - k → (S1 (k + j)).size ≤ maxLen) := fun j hj => hV.out (k + j) (by omega)
      have hlend : Hid ((outN E (fun j => S0 (k + j)) (fun j => S1 (k + j)) (n0 - k)).length ≤ 4194304) := by
        have e := congrArg List.length (outN_split E S0 S1 hkn)
        rw [List.length_append] at e
        have := hlen.out
        show _ ≤ _
        omega
      have hlend2 : Hid ((outN E (fun j => S0 (k + j)) (fun j => S1 (k + j)) (n0 - k)).length ≤ 100000000) := Nat.le_trans hlend.out (by omega)
      obtain ⟨ld, hld⟩ : ∃ x, (if n0 = k then la else Option.map (fun x => x.add k) la) = x := ⟨_, rfl⟩
      obtain ⟨vd, hvd⟩ : ∃ x, (if n0 = k then lb else Option.map (fun x => x.add k) lb) = x := ⟨_, rfl⟩
      have HLD := hide hld
      have HVD := hide hvd
      go_region_held3 (fun _ => True) (trivial)
        (first
          | (go_at_call 12; refine (newText_any _ _ (n0 - k) _ _ (fun j => S0 (k + j)) (fun j => S1 (k + j)) _ (by omega) (by have := ST7.out.drew.lits.drop k; rw [HLD.out] at this; exact this) (by have := ST7.out.drew.vars.drop k; rw [HVD.out] at this; exact this)).mono ?_; rintro e w8 ⟨pa, rfl, hpa, hb8⟩; have HPA := hide hpa; have ST8 := hide (ST7.out.drew.step hb8); clear hpa hb8)
          | (go_at_call 11; refine (expandWith_any pa (n0 - k) (n0 - k) r o E (fun j => S0 (k + j)) (fun j => S1 (k + j)) _ (by omega) HPA hVd hlend2 ST8.out.env HE).mono ?_; rintro e w9 ⟨rfl, hb9⟩; have ST9 := hide (ST8.out.step hb9); clear hb9 HPA))
      clear ST7 ST8 hVd hlend2
      generalize hY : (⟨(outN E (fun j => S0 (k + j)) (fun j => S1 (k + j)) (n0 - k)).toArray⟩ : ByteArray) = Y
      have HY := hide hY
      clear hY
      have HNL : Hid (la = none → k = 0 ∧ n0 = 0) := fun h => by have := ST9.out.lits.none h; omega
      have HNV : Hid (lb = none → k = 0 ∧ n0 = 0) := fun h => by have := ST9.out.vars.none h; omega
      have HDL : Hid (ld = none → n0 - k = 0 ∧ n0 - k = 0) := fun h => by
        have h2 := ST9.out.lits.drop k
        rw [HLD.out] at h2
        have := h2.none h
        omega
      have HDV : Hid (vd = none → n0 - k = 0 ∧ n0 - k = 0) := fun h => by
        have h2 := ST9.out.vars.drop k
        rw [HVD.out] at h2
        have := h2.none h
        omega
      have CL : Hid (∀ x, Below w9.heap.size w9 x → IsStrs x la k S0 ∧ IsStrs x ld (n0 - k) (fun j => S0 (k + j)) ∧ IsStrs x lb k S1 ∧ IsStrs x vd (n0 - k) (fun j => S1 (k + j))) := fun x hx => by
        have h1 := (ST9.out.lits.below hx).drop k
        rw [HLD.out] at h1
        have h2 := (ST9.out.vars.below hx).drop k
        rw [HVD.out] at h2
        exact ⟨(ST9.out.lits.below hx).take hkn, h1, (ST9.out.vars.below hx).take hkn, h2⟩
      go_wp2_with (first
        | (at_make; refine wpList_make_own _ rfl _ (.tmp 129) 23 rfl w9.heap.size 9 i0 (.string ⟨#[]⟩) 1 Try.underlying23 hi hy0 hy1 _ _ _ (n0 + 1) rfl rfl (by omega) (by rw [hy2]; omega) (by unfold maxLen; omega) (by exact Nat.le_refl _) ?_; intro x1 o1 gr1; have B1 := hide ((Below.refl w9.heap.size w9).grown gr1 (Nat.le_refl _) (fun _ h => by cases h)); have O1 := hide o1; clear o1 gr1)
        | (at_builtin; refine wpList_append_fits_any _ rfl (.tmp 131) (.tmp 134) 23 rfl w9.heap.size 9 i0 1 Try.underlying23 hi hy1 _ _ _ _ rfl O1.out la k n0 (strs S0 k) rfl (by simp [strs_length]) HNL.out (CL.out _ B1.out).1.cells (strs_one _ _) (by omega) ?_; intro x2 o2 gr2; simp only [Nat.zero_add, List.nil_append] at o2; have B2 := hide (B1.out.grown gr2 B1.out.size (fun j hj => by cases hj; exact Nat.le_refl _)); have O2 := hide o2; clear o2 gr2)
        | (at_builtin; refine wpList_append_fits _ rfl (.tmp 136) (.tmp 138) 23 rfl w9.heap.size 9 i0 1 Try.underlying23 hi hy1 _ _ _ _ rfl (O2.out.alloc _) ⟨x2.heap.size, 0, none⟩ 1 1 [.string s] rfl rfl (World.news_of_block (cs := #[.string s]) (heap_alloc_new x2 _)) (by intro u hu; simp at hu; subst hu; rfl) (by omega) ?_; intro x3 o3 gr3; have B3 := hide ((B2.out.alloc B2.out.size _).grown gr3 (by have := B2.out.size; simp; omega) (fun j hj => by cases hj; exact Nat.le_refl _)); have O3 := hide o3; clear o3 gr3)
        | (at_builtin; refine wpList_append_fits_any _ rfl (.tmp 140) (.tmp 143) 23 rfl w9.heap.size 9 i0 1 Try.underlying23 hi hy1 _ _ _ _ rfl O3.out ld (n0 - k) (n0 - k) (strs (fun j => S0 (k + j)) (n0 - k)) rfl (by simp [strs_length]) HDL.out (CL.out _ B3.out).2.1.cells (strs_one _ _) (by omega) ?_; intro x4 o4 gr4; have B4 := hide (B3.out.grown gr4 B3.out.size (fun j hj => by cases hj; exact Nat.le_refl _)); have O4 := hide o4; clear o4 gr4)
        | (at_make; refine wpList_make_own _ rfl _ (.tmp 147) 23 rfl x4.heap.size 9 i0 (.string ⟨#[]⟩) 1 Try.underlying23 hi hy0 hy1 _ _ _ (n0 + 1) rfl rfl (by omega) (by rw [hy2]; omega) (by unfold maxLen; omega) (by exact Nat.le_refl _) ?_; intro y1 o1 gr1; have D1 := hide ((Below.refl x4.heap.size x4).grown gr1 (Nat.le_refl _) (fun _ h => by cases h)); have V1 := hide o1; clear o1 gr1)
        | (at_builtin; refine wpList_append_fits_any _ rfl (.tmp 149) (.tmp 152) 23 rfl x4.heap.size 9 i0 1 Try.underlying23 hi hy1 _ _ _ _ rfl V1.out lb k n0 (strs S1 k) rfl (by simp [strs_length]) HNV.out (CL.out _ (B4.out.trans (D1.out.mono B4.out.size))).2.2.1.cells (strs_one _ _) (by omega) ?_; intro y2 o2 gr2; simp only [Nat.zero_add, List.nil_append] at o2; have D2 := hide (D1.out.grown gr2 D1.out.size (fun j hj => by cases hj; exact Nat.le_refl _)); have V2 := hide o2; clear o2 gr2)
        | (at_builtin; refine wpList_append_fits _ rfl (.tmp 154) (.tmp 155) 23 rfl x4.heap.size 9 i0 1 Try.underlying23 hi hy1 _ _ _ _ rfl (V2.out.alloc _) ⟨y2.heap.size, 0, none⟩ 1 1 [.string ⟨#[]⟩] rfl rfl (World.news_of_block (cs := #[.string ⟨#[]⟩]) (heap_alloc_new y2 _)) (by intro u hu; simp at hu; subst hu; rfl) (by omega) ?_; intro y3 o3 gr3; have D3 := hide ((D2.out.alloc D2.out.size _).grown gr3 (by have := D2.out.size; simp; omega) (fun j hj => by cases hj; exact Nat.le_refl _)); have V3 := hide o3; clear o3 gr3)
        | (at_builtin; refine wpList_append_fits_any _ rfl (.tmp 157) (.tmp 160) 23 rfl x4.heap.size 9 i0 1 Try.underlying23 hi hy1 _ _ _ _ rfl V3.out vd (n0 - k) (n0 - k) (strs (fun j => S1 (k + j)) (n0 - k)) rfl (by simp [strs_length]) HDV.out (CL.out _ (B4.out.trans (D3.out.mono B4.out.size))).2.2.2.cells (strs_one _ _) (by omega) ?_; intro y4 o4 gr4; have D4 := hide (D3.out.grown gr4 D3.out.size (fun j hj => by cases hj; exact Nat.le_refl _)); have V4 := hide o4; clear o4 gr4))
      have IL := hide (owned_strs (S := ins S0 k s) O4.out (fun j hj => ins_at S0 k (n0 - k) s j hj))
      have IV := hide (owned_strs (S := ins S1 k ⟨#[]⟩) V4.out (fun j hj => ins_at S1 k (n0 - k) ⟨#[]⟩ j hj))
      have IL2 := hide (IL.out.below D4.out)
      have STY := hide (ST9.out.step (B4.out.trans (D4.out.mono B4.out.size)))
      clear B1 B2 B3 O1 O2 O3 O4 HNL HDL D1 D2 D3 D4 V1 V2 V3 V4 HNV HDV CL IL B4 ST9 hld hvd HLD HVD
      have hVi : Hid (∀ j, j < k + 1 + (n0 - k) → (ins S1 k ⟨#[]⟩ j).size ≤ maxLen) := fun j hj => by
        unfold ins
        split
        · exact hV.out j (by omega)
        · split
          · exact Nat.zero_le _
          · exact hV.out (j - 1) (by omega)
      have hleni : Hid ((outN E (ins S0 k s) (ins S1 k ⟨#[]⟩) (k + 1 + (n0 - k))).length ≤ 100000000) := by
        show _ ≤ _
        rw [outN_ins, List.length_append, List.length_append]
        have e := congrArg List.length (outN_split E S0 S1 hkn)
        rw [List.length_append] at e
        have := hlen.out
        have hs : s.data.toList.length = s.size := by simp
        omega
      refine (newText_any _ _ (k + 1 + (n0 - k)) _ _ (ins S0 k s) (ins S1 k ⟨#[]⟩) _ (by omega) IL2 IV).mono ?_
      rintro e z1 ⟨pa, rfl, hpa, hb⟩
      have HPA := hide hpa
      have STZ := hide (STY.out.step hb)
      clear hpa hb STY IL2 IV
      go_wp2_with fail
      refine (expandWith_any pa (k + 1 + (n0 - k)) (k + 1 + (n0 - k)) r o E (ins S0 k s) (ins S1 k ⟨#[]⟩) _ (by omega) HPA hVi hleni STZ.out.env HE).mono ?_
      rintro e z2 ⟨rfl, hb⟩
      have STF := hide (STZ.out.step hb)
      clear hb STZ HPA
      generalize hZ : (⟨(outN E (ins S0 k s) (ins S1 k ⟨#[]⟩) (k + 1 + (n0 - k))).toArray⟩ : ByteArray) = Z
      have HZ := hide hZ
      clear hZ
      obtain ⟨t1, t2, t3, t4⟩ := split_answers hkn HW.out HX.out HY.out HZ.out hlen.out
      clear HW HX HY HZ hlen hlen2 hlend hleni
      go_wp2
      go_ret
      exact ⟨ret_bool (by first | rfl | simp_all), STF.out.below⟩
end Go.Proofs.Qxb6613449a.ex
