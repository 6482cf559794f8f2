/- A []string argument, opened into what the walks ask. -/
import Derived.Test.Qxb6613449aExpBase
import Derived.OpenShut
import Derived.ShutString
import Derived.ChangeOld
import Derived.Below
import Derived.Carry
import Derived.Deep.Strs
namespace Go.Proofs.Qxb6613449a.ex
open Go.ChangeShapes Go.WideShapes Go.ChangeAt Go.RowKit

theorem own : ownKnob Try.prog.godebug = none := by kernel_rfl
theorem laidOut : laidOutB Try.prog = true := by kernel_rfl
theorem cells9 : Try.prog.cellsOf 9 = 1 := by kernel_rfl

theorem spot_none {W : World} {b off : Nat} {spot : Option Nat} {v : Value} (h : W.cell? ⟨b, off, spot⟩ = some v) : spot = none := by
  cases spot with
  | none => rfl
  | some s =>
    exfalso
    unfold World.cell? at h
    split at h <;> simp at h

theorem view {H : Type} {enc : TypeId × Value → H} {W : World} {a : Option Addr} {n c : Nat} {d : DataW H} {p : List MemPlace}
    (h : DataW.Trod enc Try.prog W 0 (fun _ => true) true 23 (.slice a n c) d p) :
    ∃ S : Nat → ByteArray, IsStrs W a n S ∧ (∀ j, j < n → (S j).size ≤ maxLen) ∧ n ≤ maxLen ∧ (a = none → n = 0 ∧ c = 0) ∧ ∀ x ∈ p, x.block < W.heap.size := by
  have k0 := h
  have lt0 : ∀ x ∈ p, x.block < W.heap.size := by obtain ⟨m, hm⟩ := k0; exact DataW.trod_lt m _ _ _ hm
  obtain ⟨fuel, hf⟩ := h
  rcases Go.Deep.open_strs Try.underlying23 Try.underlying9 cells9 hf with ⟨hcs, _⟩ | ⟨x, l, cp, m, S, hcs, _, hl, hm, hmm, _, hx⟩
  · simp [Value.cells] at hcs
    obtain ⟨rfl, rfl, rfl⟩ := hcs
    exact ⟨fun _ => ⟨#[]⟩, fun h => absurd h (by omega), fun j hj => absurd hj (by omega), Nat.zero_le _, fun _ => ⟨rfl, rfl⟩, lt0⟩
  · simp [Value.cells] at hcs
    obtain ⟨rfl, rfl, rfl⟩ := hcs
    simp at hmm
    subst hmm
    refine ⟨S, fun hpos => ?_, fun j hj => (hx j (by omega)).2, by omega, (fun h => by cases h), lt0⟩
    obtain ⟨b, off, spot⟩ := x
    have e0 := (hx 0 (by omega)).1
    have e1 : W.cell? ⟨b, off, spot⟩ = some (.string (S 0)) := by simpa [Addr.add] using e0
    have hs := spot_none e1
    subst hs
    refine ⟨b, off, rfl, World.block_lt_of_cell? W ⟨b, off, none⟩ e1, fun j hj => ?_⟩
    have := (hx j (by omega)).1
    have ea : (⟨b, off, none⟩ : Addr).add j = ⟨b, off + j, none⟩ := by unfold Addr.add; split <;> simp_all
    rwa [ea] at this
end Go.Proofs.Qxb6613449a.ex
