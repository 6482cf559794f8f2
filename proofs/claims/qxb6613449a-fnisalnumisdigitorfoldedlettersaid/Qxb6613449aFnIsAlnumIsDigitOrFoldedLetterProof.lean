/- The proof of Rows.FnIsAlnumIsDigitOrFoldedLetterSaid: the given shell, filled. -/
import Derived.Test.Qxb6613449aRows
import Derived.WalkKit
import Derived.ProofKit
import Derived.OpenShut
import Derived.ShutString
namespace Go.Proofs.Qxb6613449a.fnIsAlnumIsDigitOrFoldedLetter
open Go.ChangeShapes Go.WideShapes Go.ChangeAt Go.RowKit
open Go.ChangeMaps (open_string shut_string)
set_option linter.unusedVariables false      -- a walk need not use every 'w<i>' (that an integer argument fits its kind)

theorem own : ownKnob Try.prog.godebug = none := by kernel_rfl

/-! ### THE PLAIN LAW: over the 256 bytes, by the kernel -/
def alnB (a : Int) : Bool := decide (97 ≤ a ∧ a ≤ 122) || decide (65 ≤ a ∧ a ≤ 90) || decide (48 ≤ a ∧ a ≤ 57)

theorem law_fin : ∀ n : Fin 256,
    alnB (n.val : Int) = (decide (((n.val : Int) - 48) % 256 < 10) || decide ((bits .or .u8 (n.val : Int) 32 - 97) % 256 < 26)) ∧
    (64 ≤ n.val → alnB (bits .xor .u8 (n.val : Int) 32) = alnB (n.val : Int)) := by
  decide +kernel

theorem law (a : Int) (h0 : 0 ≤ a) (h1 : a < 256) :
    alnB a = (decide ((a - 48) % 256 < 10) || decide ((bits .or .u8 a 32 - 97) % 256 < 26)) ∧
    (64 ≤ a → alnB (bits .xor .u8 a 32) = alnB a) := by
  obtain ⟨n, rfl⟩ := Int.eq_ofNat_of_zero_le h0
  obtain ⟨e1, e2⟩ := law_fin ⟨n, by omega⟩
  exact ⟨e1, fun h => e2 (by show 64 ≤ n; omega)⟩

/-! ### THE WALKS -/
theorem ret_bool {a b : Bool} (h : a = b) : Ending.returned (.bool a) = .returned (.bool b) := by rw [h]

set_option maxHeartbeats 400000 in
theorem isAlnum_any (a : Int) (w : World) :
    Calls Try.prog 16 #[.int .u8 a] w fun e w' => e = .returned (.bool (alnB a)) ∧ w' = w := by
  go_enter Try.func16, Try.ntmps16
  go_wp2
  all_goals
    go_ret
    refine ⟨ret_bool ?_, rfl⟩
    unfold alnB
    rw [Bool.eq_iff_iff]
    simp
    try omega

set_option maxHeartbeats 400000 in
theorem zz_any (a : Int) (w : World) :
    Calls Try.prog 6 #[.int .u8 a] w fun e w' => e = .returned (.bool (alnB a)) ∧ w' = w := by
  go_enter Try.func6, Try.ntmps6
  go_wp2_with (go_at_call 16; refine (isAlnum_any _ _).mono ?_; rintro e w' ⟨rfl, rfl⟩)
  go_ret
  exact ⟨rfl, rfl⟩

theorem byte_range {a : Int} (h : (Lit.int .u8 a).wf = true) : 0 ≤ a ∧ a < 256 := by
  simp [Lit.wf] at h
  have e1 : IntKind.min .u8 = 0 := rfl
  have e2 : IntKind.max .u8 = 255 := rfl
  omega

set_option maxHeartbeats 400000 in
theorem walk (a0 : Int) (w0 : (Lit.int .u8 a0).wf = true) (w : World) :
    Calls Try.prog 3 #[.int .u8 a0] w fun e w' => e = .returned (.bool true) ∧ Grown w w' := by
  obtain ⟨r0, r1⟩ := byte_range w0
  have L : Hid _ := law a0 r0 r1
  clear w0
  go_enter Try.func3, Try.ntmps3
  go_wp2_with (go_at_call 6; refine (zz_any _ _).mono ?_; rintro e w' ⟨rfl, rfl⟩)
  all_goals
    go_ret
    obtain ⟨l1, l2⟩ := L.out
    refine ⟨ret_bool ?_, Grown.refl _⟩
    first
      | rfl
      | (rw [l2 (by assumption)]; simp; done)
      | (exfalso; simp_all; done)

/-! ### THE ROW's STEP: WRITTEN OUT: LEAVE IT -/
set_option maxRecDepth 100000 in
theorem lifted (os : Os) (started : os.Started) (H : Type) (enc : TypeId × Value → H) :
    ReturnsInHanded {} Try.checked os 3 .any (Rows.fnIsAlnumIsDigitOrFoldedLetterSpec.pre6 enc Try.prog Try.f3 Rows.fnIsAlnumIsDigitOrFoldedLetterRow.domain false) (Rows.fnIsAlnumIsDigitOrFoldedLetterSpec.post enc Try.prog Try.f3 false true false false) := by
  refine returnsInHanded_of_change (C := Try.checked) own started (by kernel_rfl) Try.func3
    (ChangeSpec.witness6 (enc := enc) (C := Try.checked) false ⟨#[], #[.int .u8 0], []⟩ 8 (by kernel_rfl) (by kernel_rfl) (by kernel_rfl) (by kernel_rfl)) ?_
  intro W base args ds gs before hval0 hW hcnd _
  have hval : ∀ (j : Nat) t v, Try.f3.params[j]? = some t → args[j]? = some v → Value.okWide Try.prog W .any base t v := hval0
  have hW' := hW
  obtain ⟨p, q, hA0, hV, rfl, hfz, hnd⟩ := hW
  have hA : DataW.TrodAll enc Try.prog W 0 (fun _ => true) true Try.f3.params.toList args.toList ds p := hA0
  rw [Try.params3] at hA hval
  obtain ⟨v0, vs0, d0, ds0, p0, q0, hargs, rfl, rfl, h0, r0⟩ := trodAll_cons hA
  obtain ⟨rfl, rfl, rfl⟩ := trodAll_nil r0
  obtain rfl : args = #[v0] := by cases args; simp_all
  obtain ⟨rfl, rfl⟩ := trodVars_none hV
  obtain ⟨a0, rfl, rfl, rfl, w0⟩ := open_int Try.underlying5 (hval 0 5 v0 rfl rfl) h0
  clear hA0 hval0
  simp only [List.append_nil] at hW'
  refine (walk a0 w0 W).mono fun e W' ⟨he, hg⟩ => ?_
  subst he
  exact ⟨_, rfl, post_of_same (pa := []) (pv := []) hW' (fun _ _ _ => (trodAll_cons_mk (shut_bool Try.underlying4 _) trodAll_mk0)) (fun sp _ => (trodAll_cons_mk (shut_int Try.underlying5 w0) trodAll_mk0)) (fun _ _ => rfl) rfl
    (hg.frame _) hg.2.1 (ok_one (by kernel_rfl) rfl (okWide_bool_mk Try.underlying4 _))⟩

theorem over : Rows.fnIsAlnumIsDigitOrFoldedLetterRow.holds Try.pinned (OpenSpec.ofChange Rows.fnIsAlnumIsDigitOrFoldedLetterSpec) :=
  OpenClaim.holds_of_wide 3 Try.f3 rfl rfl rfl rfl rfl rfl rfl ⟨rfl, rfl, rfl, rfl, rfl⟩ rfl rfl rfl rfl rfl (by kernel_rfl) Try.func3 (by kernel_rfl)
    (of_decide_eq_true (by kernel_rfl)) (by unfold Func.isWrapper; first | (rw [if_pos (by decide +kernel)]; kernel_rfl) | (rw [if_neg (by decide +kernel)]; exact ⟨rfl, rfl⟩))
    (fun os started H enc _ => lifted os started H enc)

/-- ████ THE STATEMENT ████ -/
theorem proved : Rows.FnIsAlnumIsDigitOrFoldedLetterSaid :=
  over
#print axioms proved
end Go.Proofs.Qxb6613449a.fnIsAlnumIsDigitOrFoldedLetter
