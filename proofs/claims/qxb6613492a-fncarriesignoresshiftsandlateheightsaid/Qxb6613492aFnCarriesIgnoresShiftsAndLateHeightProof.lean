/- The proof of Rows.FnCarriesIgnoresShiftsAndLateHeightSaid: the given shell, filled. -/
import Derived.Test.Qxb6613492aRows
import Derived.Test.Qxb6613492aCarries
import Derived.WalkKit
import Derived.ProofKit
import Derived.OpenShut
import Derived.ShutString
namespace Go.Proofs.Qxb6613492a.fnCarriesIgnoresShiftsAndLateHeight
open Go.ChangeShapes Go.WideShapes Go.ChangeAt Go.RowKit
open Go.ChangeMaps (open_string shut_string)
set_option linter.unusedVariables false      -- a walk need not use every 'w<i>' (that an integer argument fits its kind)

theorem own : ownKnob Try.prog.godebug = none := by kernel_rfl

/-! ### THE PLAIN LAW -/
open Go.Proofs.Qxb6613492a.carr (carB ret_bool grown_trans zz_any)

theorem range {a : Int} (h : (Lit.int .i64 a).wf = true) : -9223372036854775808 ≤ a ∧ a ≤ 9223372036854775807 := by
  simp [Lit.wf] at h
  have e1 : IntKind.min .i64 = -9223372036854775808 := rfl
  have e2 : IntKind.max .i64 = 9223372036854775807 := rfl
  omega

theorem law1 (f t s k now retry e d : Int) :
    carB (f + e) (t + e) (wrap64 (s + d)) (k + e) (wrap64 (now + d)) retry = carB f t s k now retry := by
  unfold carB wrap64
  rw [Bool.eq_iff_iff]
  simp only [Bool.and_eq_true, decide_eq_true_eq]
  omega

theorem law2 (f t s d : Int) (p : -9223372036854775808 ≤ d) (q : d ≤ 9223372036854775807) :
    carB f t s f (wrap64 (s + d)) (wrap64 (d + 1)) = (decide (f ≤ t) && (d != 9223372036854775807)) := by
  unfold carB wrap64
  rw [Bool.eq_iff_iff]
  simp only [Bool.and_eq_true, decide_eq_true_eq, bne_iff_ne, ne_eq]
  omega

def fitB (x e : Int) : Bool := decide (-9223372036854775808 ≤ x + e) && decide (x + e ≤ 9223372036854775807)

set_option maxHeartbeats 1000000 in
theorem fits_any (x e : Int) (w : World) (p : -9223372036854775808 ≤ x ∧ x ≤ 9223372036854775807) (q : -9223372036854775808 ≤ e ∧ e ≤ 9223372036854775807) :
    Calls Try.prog 6 #[.int .i64 x, .int .i64 e] w fun r w' => r = .returned (.bool (fitB x e)) ∧ w' = w := by
  obtain ⟨p1, p2⟩ := p
  obtain ⟨q1, q2⟩ := q
  by_cases h1 : 0 < e
  · go_enter Try.func6, Try.ntmps6
    go_wp2
    all_goals
      go_ret
      refine ⟨ret_bool ?_, rfl⟩
      unfold fitB
      rw [Bool.eq_iff_iff]
      simp
      omega
  · by_cases h2 : e < 0
    · go_enter Try.func6, Try.ntmps6
      go_wp2
      all_goals
        go_ret
        refine ⟨ret_bool ?_, rfl⟩
        unfold fitB
        rw [Bool.eq_iff_iff]
        simp
        omega
    · go_enter Try.func6, Try.ntmps6
      go_wp2
      all_goals
        go_ret
        refine ⟨ret_bool ?_, rfl⟩
        unfold fitB
        rw [Bool.eq_iff_iff]
        simp
        omega

/-! ### THE WALK -/
set_option maxHeartbeats 2000000 in
theorem walk (a0 : Int) (a1 : Int) (a2 : Int) (a3 : Int) (a4 : Int) (a5 : Int) (a6 : Int) (a7 : Int) (a8 : Int) (a9 : Int) (w0 : (Lit.int .i64 a0).wf = true) (w1 : (Lit.int .i64 a1).wf = true) (w2 : (Lit.int .i64 a2).wf = true) (w3 : (Lit.int .i64 a3).wf = true) (w4 : (Lit.int .i64 a4).wf = true) (w5 : (Lit.int .i64 a5).wf = true) (w6 : (Lit.int .i64 a6).wf = true) (w7 : (Lit.int .i64 a7).wf = true) (w8 : (Lit.int .i64 a8).wf = true) (w9 : (Lit.int .i64 a9).wf = true) (w : World) :
    Calls Try.prog 4 #[.int .i64 a0, .int .i64 a1, .int .i64 a2, .int .i64 a3, .int .i64 a4, .int .i64 a5, .int .i64 a6, .int .i64 a7, .int .i64 a8, .int .i64 a9] w fun e w' => e = .returned (.bool true) ∧ Grown w w' := by
  have b0 := range w0
  have b1 := range w1
  have b4 := range w4
  have b7 := range w7
  obtain ⟨p8, q8⟩ := range w8
  clear w0 w1 w2 w3 w4 w5 w6 w7 w8 w9
  cases f0 : fitB a0 a7
  · go_enter Try.func4, Try.ntmps4
    go_wp2_with (first | (go_at_call 6; refine (fits_any _ _ _ (by assumption) (by assumption)).mono ?_; rintro e w' ⟨rfl, rfl⟩) | (go_at_call 5; refine (zz_any _ _ _ _ _ _ _ _).mono ?_; rintro e w' ⟨rfl, hg⟩))
    go_ret
    exact ⟨rfl, by repeat (first | exact Grown.refl _ | assumption | refine grown_trans ?_ (by assumption))⟩
  cases f1 : fitB a1 a7
  · go_enter Try.func4, Try.ntmps4
    go_wp2_with (first | (go_at_call 6; refine (fits_any _ _ _ (by assumption) (by assumption)).mono ?_; rintro e w' ⟨rfl, rfl⟩) | (go_at_call 5; refine (zz_any _ _ _ _ _ _ _ _).mono ?_; rintro e w' ⟨rfl, hg⟩))
    go_ret
    exact ⟨rfl, by repeat (first | exact Grown.refl _ | assumption | refine grown_trans ?_ (by assumption))⟩
  cases f4 : fitB a4 a7
  · go_enter Try.func4, Try.ntmps4
    go_wp2_with (first | (go_at_call 6; refine (fits_any _ _ _ (by assumption) (by assumption)).mono ?_; rintro e w' ⟨rfl, rfl⟩) | (go_at_call 5; refine (zz_any _ _ _ _ _ _ _ _).mono ?_; rintro e w' ⟨rfl, hg⟩))
    go_ret
    exact ⟨rfl, by repeat (first | exact Grown.refl _ | assumption | refine grown_trans ?_ (by assumption))⟩
  have g0 : -9223372036854775808 ≤ a0 + a7 ∧ a0 + a7 ≤ 9223372036854775807 := by simpa [fitB] using f0
  have g1 : -9223372036854775808 ≤ a1 + a7 ∧ a1 + a7 ≤ 9223372036854775807 := by simpa [fitB] using f1
  have g4 : -9223372036854775808 ≤ a4 + a7 ∧ a4 + a7 ≤ 9223372036854775807 := by simpa [fitB] using f4
  obtain ⟨g0a, g0b⟩ := g0
  obtain ⟨g1a, g1b⟩ := g1
  obtain ⟨g4a, g4b⟩ := g4
  have l1 := law1 a0 a1 a2 a4 a5 a6 a7 a8
  have l2 := law2 a0 a1 a2 a8 p8 q8
  cases hB : carB a0 a1 a2 a4 a5 a6
  all_goals rw [hB] at l1
  all_goals clear p8 q8
  all_goals cases c2 : (a8 != 9223372036854775807)
  all_goals rw [c2] at l2
  all_goals by_cases c1 : a0 ≤ a1
  all_goals simp only [c1, decide_true, decide_false, Bool.and_true, Bool.and_false] at l2
  all_goals go_enter Try.func4, Try.ntmps4
  all_goals go_wp2_with (first | (go_at_call 6; refine (fits_any _ _ _ (by assumption) (by assumption)).mono ?_; rintro e w' ⟨rfl, rfl⟩) | (go_at_call 5; refine (zz_any _ _ _ _ _ _ _ _).mono ?_; rintro e w' ⟨rfl, hg⟩))
  all_goals go_ret
  all_goals exact ⟨rfl, by repeat (first | exact Grown.refl _ | assumption | refine grown_trans ?_ (by assumption))⟩

/-! ### THE ROW's STEP: WRITTEN OUT: LEAVE IT -/
set_option maxRecDepth 100000 in
theorem lifted (os : Os) (started : os.Started) (H : Type) (enc : TypeId × Value → H) :
    ReturnsInHanded {} Try.checked os 4 .any (Rows.fnCarriesIgnoresShiftsAndLateHeightSpec.pre6 enc Try.prog Try.f4 Rows.fnCarriesIgnoresShiftsAndLateHeightRow.domain false) (Rows.fnCarriesIgnoresShiftsAndLateHeightSpec.post enc Try.prog Try.f4 false true false false) := by
  refine returnsInHanded_of_change (C := Try.checked) own started (by kernel_rfl) Try.func4
    (ChangeSpec.witness6 (enc := enc) (C := Try.checked) false ⟨#[], #[.int .i64 0, .int .i64 0, .int .i64 0, .int .i64 0, .int .i64 0, .int .i64 0, .int .i64 0, .int .i64 0, .int .i64 0, .int .i64 0], []⟩ 8 (by kernel_rfl) (by kernel_rfl) (by kernel_rfl) (by kernel_rfl)) ?_
  intro W base args ds gs before hval0 hW hcnd _
  have hval : ∀ (j : Nat) t v, Try.f4.params[j]? = some t → args[j]? = some v → Value.okWide Try.prog W .any base t v := hval0
  have hW' := hW
  obtain ⟨p, q, hA0, hV, rfl, hfz, hnd⟩ := hW
  have hA : DataW.TrodAll enc Try.prog W 0 (fun _ => true) true Try.f4.params.toList args.toList ds p := hA0
  rw [Try.params4] at hA hval
  obtain ⟨v0, vs0, d0, ds0, p0, q0, hargs, rfl, rfl, h0, r0⟩ := trodAll_cons hA
  obtain ⟨v1, vs1, d1, ds1, p1, q1, rfl, rfl, rfl, h1, r1⟩ := trodAll_cons r0
  obtain ⟨v2, vs2, d2, ds2, p2, q2, rfl, rfl, rfl, h2, r2⟩ := trodAll_cons r1
  obtain ⟨v3, vs3, d3, ds3, p3, q3, rfl, rfl, rfl, h3, r3⟩ := trodAll_cons r2
  obtain ⟨v4, vs4, d4, ds4, p4, q4, rfl, rfl, rfl, h4, r4⟩ := trodAll_cons r3
  obtain ⟨v5, vs5, d5, ds5, p5, q5, rfl, rfl, rfl, h5, r5⟩ := trodAll_cons r4
  obtain ⟨v6, vs6, d6, ds6, p6, q6, rfl, rfl, rfl, h6, r6⟩ := trodAll_cons r5
  obtain ⟨v7, vs7, d7, ds7, p7, q7, rfl, rfl, rfl, h7, r7⟩ := trodAll_cons r6
  obtain ⟨v8, vs8, d8, ds8, p8, q8, rfl, rfl, rfl, h8, r8⟩ := trodAll_cons r7
  obtain ⟨v9, vs9, d9, ds9, p9, q9, rfl, rfl, rfl, h9, r9⟩ := trodAll_cons r8
  obtain ⟨rfl, rfl, rfl⟩ := trodAll_nil r9
  obtain rfl : args = #[v0, v1, v2, v3, v4, v5, v6, v7, v8, v9] := by cases args; simp_all
  obtain ⟨rfl, rfl⟩ := trodVars_none hV
  obtain ⟨a0, rfl, rfl, rfl, w0⟩ := open_int Try.underlying2 (hval 0 2 v0 rfl rfl) h0
  obtain ⟨a1, rfl, rfl, rfl, w1⟩ := open_int Try.underlying2 (hval 1 2 v1 rfl rfl) h1
  obtain ⟨a2, rfl, rfl, rfl, w2⟩ := open_int Try.underlying2 (hval 2 2 v2 rfl rfl) h2
  obtain ⟨a3, rfl, rfl, rfl, w3⟩ := open_int Try.underlying2 (hval 3 2 v3 rfl rfl) h3
  obtain ⟨a4, rfl, rfl, rfl, w4⟩ := open_int Try.underlying2 (hval 4 2 v4 rfl rfl) h4
  obtain ⟨a5, rfl, rfl, rfl, w5⟩ := open_int Try.underlying2 (hval 5 2 v5 rfl rfl) h5
  obtain ⟨a6, rfl, rfl, rfl, w6⟩ := open_int Try.underlying2 (hval 6 2 v6 rfl rfl) h6
  obtain ⟨a7, rfl, rfl, rfl, w7⟩ := open_int Try.underlying2 (hval 7 2 v7 rfl rfl) h7
  obtain ⟨a8, rfl, rfl, rfl, w8⟩ := open_int Try.underlying2 (hval 8 2 v8 rfl rfl) h8
  obtain ⟨a9, rfl, rfl, rfl, w9⟩ := open_int Try.underlying2 (hval 9 2 v9 rfl rfl) h9
  clear hA0 hval0
  simp only [List.append_nil] at hW'
  refine (walk a0 a1 a2 a3 a4 a5 a6 a7 a8 a9 w0 w1 w2 w3 w4 w5 w6 w7 w8 w9 W).mono fun e W' ⟨he, hg⟩ => ?_
  subst he
  exact ⟨_, rfl, post_of_same (pa := []) (pv := []) hW' (fun _ _ _ => (trodAll_cons_mk (shut_bool Try.underlying4 _) trodAll_mk0)) (fun sp _ => (trodAll_cons_mk (shut_int Try.underlying2 w0) (trodAll_cons_mk (shut_int Try.underlying2 w1) (trodAll_cons_mk (shut_int Try.underlying2 w2) (trodAll_cons_mk (shut_int Try.underlying2 w3) (trodAll_cons_mk (shut_int Try.underlying2 w4) (trodAll_cons_mk (shut_int Try.underlying2 w5) (trodAll_cons_mk (shut_int Try.underlying2 w6) (trodAll_cons_mk (shut_int Try.underlying2 w7) (trodAll_cons_mk (shut_int Try.underlying2 w8) (trodAll_cons_mk (shut_int Try.underlying2 w9) trodAll_mk0))))))))))) (fun _ _ => rfl) rfl
    (hg.frame _) hg.2.1 (ok_one (by kernel_rfl) rfl (okWide_bool_mk Try.underlying4 _))⟩

theorem over : Rows.fnCarriesIgnoresShiftsAndLateHeightRow.holds Try.pinned (OpenSpec.ofChange Rows.fnCarriesIgnoresShiftsAndLateHeightSpec) :=
  OpenClaim.holds_of_wide 4 Try.f4 rfl rfl rfl rfl rfl rfl rfl ⟨rfl, rfl, rfl, rfl, rfl⟩ rfl rfl rfl rfl rfl (by kernel_rfl) Try.func4 (by kernel_rfl)
    (of_decide_eq_true (by kernel_rfl)) (by unfold Func.isWrapper; first | (rw [if_pos (by decide +kernel)]; kernel_rfl) | (rw [if_neg (by decide +kernel)]; exact ⟨rfl, rfl⟩))
    (fun os started H enc _ => lifted os started H enc)

/-- ████ THE STATEMENT ████ -/
theorem proved : Rows.FnCarriesIgnoresShiftsAndLateHeightSaid :=
  over
#print axioms proved
end Go.Proofs.Qxb6613492a.fnCarriesIgnoresShiftsAndLateHeight
