/- The proof of Rows.FnNsecQueueHoldsEachEntryOnceInOrderSaid: from the walk to the row. -/
import Derived.Test.Qxb6613494aLaw
import Derived.OpenShut
import Derived.ShutString
import Derived.ChangeOld
import Derived.Below
import Derived.Carry
import Derived.Deep.SlicePairs
namespace Go.Proofs.Qxb6613494a.fnNsecQueueHoldsEachEntryOnceInOrder
open Go.ChangeShapes Go.WideShapes Go.ChangeAt Go.RowKit
open Go.Proofs.Qxb6613494a.nq (IsPairs walk)

theorem own : ownKnob Try.prog.godebug = none := by kernel_rfl
theorem laidOut : laidOutB Try.prog = true := by kernel_rfl
theorem cells30 : Try.prog.cellsOf 30 = 2 := by kernel_rfl
theorem cells3 : Try.prog.cellsOf 3 = 1 := by kernel_rfl
theorem cells4 : Try.prog.cellsOf 4 = 1 := by kernel_rfl

def boolOf : Value → Bool | .bool b => b | _ => false

set_option maxRecDepth 100000 in
theorem lifted (os : Os) (started : os.Started) (H : Type) (enc : TypeId × Value → H) :
    ReturnsInHanded {} Try.checked os 3 .any (Rows.fnNsecQueueHoldsEachEntryOnceInOrderSpec.pre6 enc Try.prog Try.f3 Rows.fnNsecQueueHoldsEachEntryOnceInOrderRow.domain false) (Rows.fnNsecQueueHoldsEachEntryOnceInOrderSpec.post enc Try.prog Try.f3 false true false false) := by
  refine returnsInHanded_of_change (C := Try.checked) own started (by kernel_rfl) Try.func3
    (ChangeSpec.witness6 (enc := enc) (C := Try.checked) false ⟨#[], #[.slice none 0 0], []⟩ 8 (by kernel_rfl) (by kernel_rfl) (by kernel_rfl) (by kernel_rfl)) ?_
  intro W base args ds gs before hval0 hW hcnd _
  have hval : ∀ (j : Nat) t v, Try.f3.params[j]? = some t → args[j]? = some v → Value.okWide Try.prog W .any base t v := hval0
  have hW' := hW
  obtain ⟨p, q, hA0, hV, rfl, hfz, hnd⟩ := hW
  have hA : DataW.TrodAll enc Try.prog W 0 (fun _ => true) true Try.f3.params.toList args.toList ds p := hA0
  rw [Try.params3] at hA hval
  obtain ⟨v0, vs0, d0, ds0, p0, q0, hargs, rfl, rfl, h0, r0⟩ := trodAll_cons hA
  obtain ⟨rfl, rfl, rfl⟩ := trodAll_nil r0
  obtain rfl : args = #[v0] := by cases args; simp_all
  obtain ⟨rfl, rfl⟩ := trodVars_none hV
  obtain ⟨a0, len0, cap0, rfl⟩ := okWide_slice Try.underlying22 (hval 0 22 v0 rfl rfl)
  have k0 := h0
  have lt0 : ∀ x ∈ p0, x.block < W.heap.size := by obtain ⟨m, hm⟩ := k0; exact DataW.trod_lt m _ _ _ hm
  obtain ⟨I, C, hn, hp⟩ : ∃ I C, len0 ≤ maxLen ∧ IsPairs W a0 len0 I C := by
    obtain ⟨fuel, hf⟩ := h0
    rcases Go.Deep.open_slice_pairs Try.underlying22 Try.underlying30 cells30 rfl rfl cells3 cells4 hf with ⟨hcs, _⟩ | ⟨x, l, c, m, n, V0, V1, D0, D1, P0, P1, hcs, _, hl, hm, hmm, _, hx⟩
    · simp [Value.cells] at hcs
      obtain ⟨rfl, rfl, rfl⟩ := hcs
      exact ⟨fun _ => 0, fun _ => false, Nat.zero_le _, fun h => absurd h (by omega)⟩
    · simp [Value.cells] at hcs
      obtain ⟨rfl, rfl, rfl⟩ := hcs
      refine ⟨fun i => intOf (V0 i), fun i => boolOf (V1 i), by omega, fun hpos => ?_⟩
      simp at hmm
      subst hmm
      obtain ⟨b, off, spot⟩ := x
      obtain ⟨e0, _⟩ := hx 0 (by omega)
      have hs : spot = none := by
        cases spot with
        | none => rfl
        | some s =>
          exfalso
          simp only [Nat.zero_mul, Addr.add, if_true] at e0
          unfold World.cell? at e0
          split at e0 <;> simp at e0
      subst hs
      refine ⟨b, off, rfl, World.block_lt_of_cell? W ⟨b, off, none⟩ (u := V0 0) (by simpa [Addr.add] using e0), fun j hj => ?_⟩
      obtain ⟨f0, f1, g0, g1⟩ := hx j (by omega)
      obtain ⟨z, hz, _, _⟩ := DataW.trod_int Try.underlying3 g0
      obtain ⟨y, hy, _⟩ := DataW.trod_bool Try.underlying4 g1
      have hz' : V0 j = .int .i64 z := by simpa using hz
      have hy' : V1 j = .bool y := by simpa using hy
      have ea : ∀ t, (⟨b, off, none⟩ : Addr).add t = ⟨b, off + t, none⟩ := fun t => by unfold Addr.add; split <;> simp_all
      rw [ea] at f0 f1
      rw [f0, show off + j * 2 + 1 = off + (j * 2 + 1) from by omega, f1]
      exact ⟨by simp only [hz', intOf], by simp only [hy', boolOf]⟩
  clear hA0 hval0
  refine (walk a0 len0 cap0 I C W hn hp).mono fun e W' ⟨he, bel⟩ => ?_
  subst he
  exact ⟨_, rfl, _, _, _, [], _, [], hW', trodAll_mk1 (shut_bool Try.underlying4 _), (trodAll_cons_mk (Below.trod laidOut (by kernel_rfl) (of_decide_eq_true (by kernel_rfl)) k0 bel lt0) trodAll_mk0), rfl, bel.frame _, fun h => by cases h⟩

theorem over : Rows.fnNsecQueueHoldsEachEntryOnceInOrderRow.holds Try.pinned (OpenSpec.ofChange Rows.fnNsecQueueHoldsEachEntryOnceInOrderSpec) :=
  OpenClaim.holds_of_wide 3 Try.f3 rfl rfl rfl rfl rfl rfl rfl ⟨rfl, rfl, rfl, rfl, rfl⟩ rfl rfl rfl rfl rfl (by kernel_rfl) Try.func3 (by kernel_rfl)
    (of_decide_eq_true (by kernel_rfl)) (by unfold Func.isWrapper; first | (rw [if_pos (by decide +kernel)]; kernel_rfl) | (rw [if_neg (by decide +kernel)]; exact ⟨rfl, rfl⟩))
    (fun os started H enc _ => lifted os started H enc)

/-- ████ THE STATEMENT ████ -/
theorem proved : Rows.FnNsecQueueHoldsEachEntryOnceInOrderSaid := over
#print axioms proved
end Go.Proofs.Qxb6613494a.fnNsecQueueHoldsEachEntryOnceInOrder
