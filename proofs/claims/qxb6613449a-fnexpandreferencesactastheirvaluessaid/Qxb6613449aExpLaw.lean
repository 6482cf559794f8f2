/- The plain laws of expansion: no Go in sight. -/
import Derived.Test.Qxb6613449aExpExpand
import Derived.Test.Qxb6613449aExpCopy
namespace Go.Proofs.Qxb6613449a.ex
open Go.RowKit

def outP (P : Nat → ByteArray) : Nat → List UInt8
  | 0 => []
  | k + 1 => outP P k ++ (P k).data.toList

theorem outN_outP (E : ByteArray → ByteArray) (L V : Nat → ByteArray) (n : Nat) : outN E L V n = outP (fun j => pick E (L j) (V j)) n := by
  induction n with
  | zero => rfl
  | succ k ih => simp only [outN, outP, ih]

theorem outP_congr {P Q : Nat → ByteArray} {n : Nat} (h : ∀ j, j < n → P j = Q j) : outP P n = outP Q n := by
  induction n with
  | zero => rfl
  | succ k ih => simp only [outP, ih (fun j hj => h j (by omega)), h k (by omega)]

theorem outP_add (P : Nat → ByteArray) (a b : Nat) : outP P (a + b) = outP P a ++ outP (fun j => P (a + j)) b := by
  induction b with
  | zero => simp [outP]
  | succ b ih =>
    rw [← Nat.add_assoc]
    simp only [outP, ih, List.append_assoc]

theorem outN_split (E : ByteArray → ByteArray) (L V : Nat → ByteArray) {k n : Nat} (h : k ≤ n) :
    outN E L V n = outN E L V k ++ outN E (fun j => L (k + j)) (fun j => V (k + j)) (n - k) := by
  rw [outN_outP, outN_outP, outN_outP, show n = k + (n - k) from by omega, outP_add]
  rw [show k + (n - k) - k = n - k from by omega]

theorem pick_empty (E : ByteArray → ByteArray) (l : ByteArray) : pick E l ⟨#[]⟩ = l := by
  simp [pick]

theorem outN_ins (E : ByteArray → ByteArray) (L V : Nat → ByteArray) (s : ByteArray) (k m : Nat) :
    outN E (ins L k s) (ins V k ⟨#[]⟩) (k + 1 + m) = outN E L V k ++ s.data.toList ++ outN E (fun j => L (k + j)) (fun j => V (k + j)) m := by
  rw [outN_outP, outN_outP, outN_outP, outP_add, outP]
  have e1 : outP (fun j => pick E (ins L k s j) (ins V k ⟨#[]⟩ j)) k = outP (fun j => pick E (L j) (V j)) k := outP_congr (fun j hj => by simp [ins, hj])
  have e2 : pick E (ins L k s k) (ins V k ⟨#[]⟩ k) = s := by
    have : ins L k s k = s := by simp [ins]
    have h2 : ins V k ⟨#[]⟩ k = ⟨#[]⟩ := by simp [ins]
    rw [this, h2, pick_empty]
  have e3 : outP (fun j => pick E (ins L k s (k + 1 + j)) (ins V k ⟨#[]⟩ (k + 1 + j))) m = outP (fun j => pick E (L (k + j)) (V (k + j))) m := outP_congr (fun j hj => by
    have h1 : ¬ (k + 1 + j < k) := by omega
    have h2 : ¬ (k + 1 + j = k) := by omega
    have h3 : k + 1 + j - 1 = k + j := by omega
    simp [ins, h1, h2, h3])
  rw [e1, e2, e3]

theorem app_toList (X Y : ByteArray) : (X ++ Y).toList = X.data.toList ++ Y.data.toList := by
  rw [ByteArray.toList_eq, ByteArray.data_append, Array.toList_append]

/-- the law's two answers, and how long the strings are -/
theorem split_answers {E : ByteArray → ByteArray} {L V : Nat → ByteArray} {s W X Y Z : ByteArray} {k n : Nat} (h : k ≤ n)
    (hW : (⟨(outN E L V n).toArray⟩ : ByteArray) = W) (hX : (⟨(outN E L V k).toArray⟩ : ByteArray) = X)
    (hY : (⟨(outN E (fun j => L (k + j)) (fun j => V (k + j)) (n - k)).toArray⟩ : ByteArray) = Y)
    (hZ : (⟨(outN E (ins L k s) (ins V k ⟨#[]⟩) (k + 1 + (n - k))).toArray⟩ : ByteArray) = Z) (hlen : (outN E L V n).length ≤ 4194304) :
    (W.toList == (X ++ Y).toList) = true ∧ (Z.toList == (X ++ s ++ Y).toList) = true ∧ X.size ≤ 4194304 ∧ Y.size ≤ 4194304 := by
  subst hW hX hY hZ
  have e := outN_split E L V h
  refine ⟨?_, ?_, ?_, ?_⟩
  · rw [app_toList, ByteArray.toList_eq, e]
    simp
  · rw [app_toList, ByteArray.data_append, Array.toList_append, ByteArray.toList_eq, outN_ins]
    simp
  · have := congrArg List.length e
    rw [List.length_append] at this
    show (outN E L V k).toArray.size ≤ _
    rw [List.size_toArray]
    omega
  · have := congrArg List.length e
    rw [List.length_append] at this
    show (outN E (fun j => L (k + j)) (fun j => V (k + j)) (n - k)).toArray.size ≤ _
    rw [List.size_toArray]
    omega
end Go.Proofs.Qxb6613449a.ex
