/- What the Expand laws say of memory and of plain data: no walk here. -/
import Derived.Test.Qxb6613449aRows
import Derived.WalkKit
import Derived.ProofKit
import Derived.OneCell
import Derived.BigQuiet
import Derived.Deep.QuietTactic
namespace Go.Proofs.Qxb6613449a.ex
open Go.ChangeShapes Go.WideShapes Go.ChangeAt Go.RowKit

theorem hide {p : Prop} (h : p) : Hid p := h

/-- a slice of strings: nothing is asked where there are none -/
def IsStrs (w : World) (a : Option Addr) (n : Nat) (S : Nat → ByteArray) : Prop :=
  0 < n → ∃ b off, a = some ⟨b, off, none⟩ ∧ b < w.heap.size ∧ ∀ j, j < n → w.cell? ⟨b, off + j, none⟩ = some (.string (S j))

theorem IsStrs.below {w w' : World} {a : Option Addr} {n : Nat} {S : Nat → ByteArray} (h : IsStrs w a n S) (hb : Below w.heap.size w w') : IsStrs w' a n S := by
  intro hn
  obtain ⟨b, off, rfl, hlt, hc⟩ := h hn
  exact ⟨b, off, rfl, Nat.lt_of_lt_of_le hlt hb.size, fun j hj => (hb.cell (p := ⟨b, off + j, none⟩) hlt).trans (hc j hj)⟩

/-- 16 and the length of each of the first k strings -/
def tot (S : Nat → ByteArray) : Nat → Nat
  | 0 => 0
  | k + 1 => tot S k + (16 + (S k).size)

theorem tot_mono (S : Nat → ByteArray) {j k : Nat} (h : j ≤ k) : tot S j ≤ tot S k := by
  induction k with
  | zero => have : j = 0 := by omega
            subst this; exact Nat.le_refl _
  | succ k ih =>
    rcases Nat.lt_or_ge j (k + 1) with h1 | h1
    · have := ih (by omega)
      simp only [tot]
      omega
    · have : j = k + 1 := by omega
      subst this; exact Nat.le_refl _

theorem tot_len (S : Nat → ByteArray) (k : Nat) : 16 * k ≤ tot S k := by
  induction k with
  | zero => simp [tot]
  | succ k ih => simp only [tot]; omega

theorem size_le_tot (S : Nat → ByteArray) (n j : Nat) (h : j < n) : (S j).size ≤ tot S n := by
  have h1 : tot S (j + 1) = tot S j + (16 + (S j).size) := rfl
  have h2 := tot_mono S (j := j + 1) (k := n) (by omega)
  omega

theorem ret_int {k : IntKind} {a b : Int} (h : a = b) : Ending.returned (.int k a) = .returned (.int k b) := by rw [h]
theorem ret_bool {a b : Bool} (h : a = b) : Ending.returned (.bool a) = .returned (.bool b) := by rw [h]

end Go.Proofs.Qxb6613449a.ex
