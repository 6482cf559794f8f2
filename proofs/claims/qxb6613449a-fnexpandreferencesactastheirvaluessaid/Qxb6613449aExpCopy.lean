/- 'if xs != nil { c := make([]string, len(xs)); copy(c, xs); xs = c }': what it leaves. -/
import Derived.Test.Qxb6613449aExpBase
import Derived.Laws.CopyOwn
namespace Go.Proofs.Qxb6613449a.ex
open Go.ChangeShapes Go.WideShapes Go.ChangeAt Go.RowKit

theorem info9 : (Try.prog.info? 9).map (fun i => (i.zero, i.size, i.bytes)) = some (some (.string ⟨#[]⟩), 1, 16) := by kernel_rfl
theorem size9 : (Try.prog.info? 9).map (·.size) = some 1 := by kernel_rfl

def strs (S : Nat → ByteArray) (n : Nat) : List Value := (List.range n).map fun j => .string (S j)

theorem strs_length (S : Nat → ByteArray) (n : Nat) : (strs S n).length = n := by simp [strs]

theorem strs_at (S : Nat → ByteArray) (n j : Nat) (h : j < n) : (strs S n)[j]? = some (.string (S j)) := by simp [strs, h]

theorem strs_one (S : Nat → ByteArray) (n : Nat) : ∀ v ∈ strs S n, v.oneCell' = true := by
  intro v hv
  simp [strs] at hv
  obtain ⟨j, _, rfl⟩ := hv
  rfl

theorem addr_add (b off t : Nat) : (⟨b, off, none⟩ : Addr).add t = ⟨b, off + t, none⟩ := by unfold Addr.add; split <;> simp_all

theorem IsStrs.src {w : World} {a : Option Addr} {n : Nat} {S : Nat → ByteArray} (h : IsStrs w a n S) (hn : 0 < n) : ∃ ad, a = some ad ∧ ∀ j v, (strs S n)[j]? = some v → w.cell? (ad.add j) = some v := by
  obtain ⟨b, off, rfl, hb, hc⟩ := h hn
  refine ⟨_, rfl, fun j v hv => ?_⟩
  have hj : j < n := by
    have := (List.getElem?_eq_some_iff.1 hv).1
    simpa [strs] using this
  rw [strs_at S n j hj] at hv
  rw [addr_add, hc j hj]
  exact hv

theorem IsStrs.cells {w : World} {a : Option Addr} {n : Nat} {S : Nat → ByteArray} (h : IsStrs w a n S) : ∀ ad, a = some ad → ∀ j u, (strs S n)[j]? = some u → w.cell? (ad.add j) = some u := by
  intro ad had j u hu
  have hj : j < n := by
    have := (List.getElem?_eq_some_iff.1 hu).1
    simpa [strs] using this
  obtain ⟨ad', e, hsrc⟩ := h.src (by omega)
  rw [had] at e
  cases e
  exact hsrc j u hu

theorem IsStrs.none {w : World} {a : Option Addr} {n : Nat} {S : Nat → ByteArray} (h : IsStrs w a n S) (ha : a = none) : n = 0 := by
  rcases Nat.eq_zero_or_pos n with h0 | h0
  · exact h0
  · obtain ⟨b, off, e, _⟩ := h h0
    rw [ha] at e
    cases e

theorem IsStrs.take {w : World} {a : Option Addr} {n k : Nat} {S : Nat → ByteArray} (h : IsStrs w a n S) (hk : k ≤ n) : IsStrs w a k S := by
  intro hpos
  obtain ⟨b, off, rfl, hb, hc⟩ := h (by omega)
  exact ⟨b, off, rfl, hb, fun j hj => hc j (by omega)⟩

theorem IsStrs.drop {w : World} {a : Option Addr} {n : Nat} {S : Nat → ByteArray} (h : IsStrs w a n S) (k : Nat) : IsStrs w (if n = k then a else Option.map (fun x => x.add k) a) (n - k) (fun j => S (k + j)) := by
  intro hpos
  obtain ⟨b, off, rfl, hb, hc⟩ := h (by omega)
  refine ⟨b, off + k, ?_, hb, fun j hj => ?_⟩
  · rw [if_neg (by omega)]
    simp [addr_add]
  · rw [Nat.add_assoc]
    exact hc (k + j) (by omega)

/-- behind the copy -/
theorem copied {w : World} {g n : Nat} {S : Nat → ByteArray} {cur : List Value} (hl : cur.length = n) (h : w.heap[g]? = some (.cells (splice cur 0 (strs S n)).toArray 9 (0, 0))) : IsStrs w (some ⟨g, 0, none⟩) n S := by
  intro _
  refine ⟨g, 0, rfl, lt_of_block h, fun j hj => ?_⟩
  have e : splice cur 0 (strs S n) = strs S n := by
    simp [splice, strs_length, hl]
  rw [e] at h
  rw [Nat.zero_add, cell_of_row w g j _ _ _ h]
  simpa using strs_at S n j hj

/-- the row that make has laid, whole -/
theorem made_row {w : World} {base g n : Nat} {xs : List Value} (h : w.ownsRow base 9 1 (.slice (some ⟨g, 0, none⟩) n n) n xs) : base ≤ g ∧ w.heap[g]? = some (.cells xs.toArray 9 (0, 0)) ∧ xs.length = n := by
  have hl := h.1
  rcases h.2 with ⟨hv, _⟩ | ⟨g', cap, cur, hv, hb, hg, _, _, hcs, ht⟩
  · cases hv
  · simp at hv
    obtain ⟨rfl, rfl⟩ := hv
    have e : cur.toList = xs := by
      rw [← ht, List.take_of_length_le (by simp; omega)]
    refine ⟨hb, ?_, by simpa using hl⟩
    rw [hg, ← e]

theorem run_copy_strs {w1 w0 : World} {g n c B : Nat} {a : Option Addr} {S : Nat → ByteArray} {xs : List Value} (h1 : B ≤ g ∧ w1.heap[g]? = some (.cells xs.toArray 9 (0, 0)) ∧ xs.length = n) (hs : IsStrs w1 a n S) (hb : Below B w0 w1) :
    ∃ w2, (Builtin.copy_ #[23, 23] 3 #[.slice (some ⟨g, 0, none⟩) n n, .slice a n c]).run Try.prog w1 = .ok (goInt n) w2 ∧ IsStrs w2 (some ⟨g, 0, none⟩) n S ∧ Below B w0 w2 := by
  obtain ⟨hBg, hg, hl⟩ := h1
  by_cases hn : n = 0
  · subst hn
    exact ⟨w1, run_copy_none (P := Try.prog) w1 23 23 3 9 _ _ 0 0 0 c Try.underlying23 size9 (by simp), fun h => absurd h (by omega), hb⟩
  · obtain ⟨ad, rfl, hsrc⟩ := hs.src (by omega)
    have hrun := run_copy_row (P := Try.prog) w1 23 23 3 9 g 0 n n ad n c xs.toArray 9 (strs S n) Try.underlying23 size9 hg (by simp [strs_length]) hsrc (by simp [strs_length, hl]) (strs_one S n)
    rw [strs_length] at hrun
    refine ⟨_, hrun, ?_, below_setRow hb hBg _⟩
    refine copied (cur := xs) hl ?_
    have := setRow_heap w1 g xs.toArray (xs.toArray.toList.take 0 ++ (strs S n ++ xs.toArray.toList.drop (0 + n))).toArray 9 (0, 0) hg
    simpa [splice, strs_length] using this

/-- an owned row of strings, read -/
theorem owned_strs {w : World} {base g n cap : Nat} {xs : List Value} {S : Nat → ByteArray} (h : w.ownsRow base 9 1 (.slice (some ⟨g, 0, none⟩) n cap) n xs) (hx : ∀ j, j < n → xs[j]? = some (.string (S j))) : IsStrs w (some ⟨g, 0, none⟩) n S := by
  intro _
  refine ⟨g, 0, rfl, (h.lt g rfl).2, fun j hj => ?_⟩
  rw [Nat.zero_add, h.cellAt j (by omega)]
  exact hx j hj

/-- S with x put in at k -/
def ins (S : Nat → ByteArray) (k : Nat) (x : ByteArray) (j : Nat) : ByteArray := if j < k then S j else if j = k then x else S (j - 1)

theorem ins_at (S : Nat → ByteArray) (k m : Nat) (x : ByteArray) (j : Nat) (hj : j < k + 1 + m) : (strs S k ++ [Value.string x] ++ strs (fun i => S (k + i)) m)[j]? = some (.string (ins S k x j)) := by
  rcases Nat.lt_or_ge j k with h | h
  · rw [List.append_assoc, List.getElem?_append_left (by rw [strs_length]; exact h), strs_at S k j h]
    simp [ins, h]
  · rcases Nat.lt_or_ge j (k + 1) with h2 | h2
    · have e : j = k := by omega
      subst e
      rw [List.append_assoc, List.getElem?_append_right (by rw [strs_length]; omega), strs_length]
      simp [ins]
    · rw [List.getElem?_append_right (by simp [strs_length]; omega)]
      have e : (strs S k ++ [Value.string x]).length = k + 1 := by simp [strs_length]
      rw [e, strs_at _ _ _ (by omega)]
      have e2 : k + (j - (k + 1)) = j - 1 := by omega
      simp only [e2, ins]
      rw [if_neg (by omega), if_neg (by omega)]
end Go.Proofs.Qxb6613449a.ex
