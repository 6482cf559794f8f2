/- The contract of ZZNewText. -/
import Derived.Test.Qxb6613449aExpExpand
namespace Go.Proofs.Qxb6613449a.ex
open Go.ChangeShapes Go.WideShapes Go.ChangeAt Go.RowKit

theorem info40 : (Try.prog.info? 40).map (fun i => (i.zero, i.size, i.bytes)) = some (some (.agg #[.string ⟨#[]⟩, .string ⟨#[]⟩]), 2, 32) := by kernel_rfl

/-- after k rounds: the row's first 2k cells; the result's own cell; the old memory -/
def Laid (w wr : World) (n : Nat) (L V : Nat → ByteArray) (k : Nat) : Prop :=
  ∃ xs, wr.ownsRow w.heap.size 40 2 (.slice (some ⟨w.heap.size + 1, 0, none⟩) n n) n xs ∧ (∀ j, j < k → xs[j * 2]? = some (.string (L j)) ∧ xs[j * 2 + 1]? = some (.string (V j))) ∧
    wr.heap[w.heap.size]? = some (.cells #[.slice none 0 0] 32 (0, 0)) ∧ Below w.heap.size w wr

theorem Laid.cells {w wr : World} {n k : Nat} {L V : Nat → ByteArray} (h : Laid w wr n L V k) (hk : k < n) : ∃ u0 u1, wr.cell? ⟨w.heap.size + 1, k * 2, none⟩ = some u0 ∧ wr.cell? ⟨w.heap.size + 1, k * 2 + 1, none⟩ = some u1 ∧
    wr.frozen? ⟨w.heap.size + 1, k * 2, none⟩ = false ∧ wr.frozen? ⟨w.heap.size + 1, k * 2 + 1, none⟩ = false := by
  obtain ⟨xs, h1, _⟩ := h
  have hl := h1.1
  refine ⟨xs[k * 2]'(by omega), xs[k * 2 + 1]'(by omega), ?_, ?_, h1.frozenAt _, h1.frozenAt _⟩
  · rw [h1.cellAt _ (by omega), List.getElem?_eq_getElem (by omega)]
  · rw [h1.cellAt _ (by omega), List.getElem?_eq_getElem (by omega)]

theorem Laid.step {w wr : World} {n k : Nat} {L V : Nat → ByteArray} (h : Laid w wr n L V k) (hk : k < n) :
    Laid w ((wr.setCell ⟨w.heap.size + 1, k * 2, none⟩ (.string (L k))).setCell ⟨w.heap.size + 1, k * 2 + 1, none⟩ (.string (V k))) n L V (k + 1) := by
  obtain ⟨xs, h1, h2, h3, h4⟩ := h
  have hl := h1.1
  refine ⟨(xs.set (k * 2) (.string (L k))).set (k * 2 + 1) (.string (V k)), ((h1.stored _ _).1.stored _ _).1, ?_, ?_, ?_⟩
  · intro j hj
    rcases Nat.lt_or_ge j k with hjk | hjk
    · obtain ⟨a1, a2⟩ := h2 j hjk
      refine ⟨?_, ?_⟩
      · rw [List.getElem?_set_ne (by omega), List.getElem?_set_ne (by omega)]; exact a1
      · rw [List.getElem?_set_ne (by omega), List.getElem?_set_ne (by omega)]; exact a2
    · have : j = k := by omega
      subst this
      refine ⟨?_, ?_⟩
      · rw [List.getElem?_set_ne (by omega), List.getElem?_set_self (by omega)]
      · rw [List.getElem?_set_self (by simp; omega)]
  · rw [Below.heap_setCell _ _ _ _ (by simp), Below.heap_setCell _ _ _ _ (by simp)]; exact h3
  · exact (h4.setCell (p := ⟨w.heap.size + 1, k * 2, none⟩) (by simp) _).setCell (p := ⟨w.heap.size + 1, k * 2 + 1, none⟩) (by simp) _

theorem Laid.drew {w wr : World} {n k : Nat} {L V : Nat → ByteArray} (h : Laid w wr n L V k) : Laid w wr.drew n L V k := by
  obtain ⟨xs, h1, h2, h3, h4⟩ := h
  exact ⟨xs, h1, h2, h3, h4.drew⟩

set_option maxHeartbeats 1000000 in
theorem newText_any (la va : Option Addr) (n lc vc : Nat) (L V : Nat → ByteArray) (w : World) (hn : n ≤ 1000000) (hl : Hid (IsStrs w la n L)) (hv : Hid (IsStrs w va n V)) :
    Calls Try.prog 12 #[.slice la n lc, .slice va n vc] w fun e w' => ∃ pa : Option Addr, e = .returned (.agg #[.slice pa n n]) ∧ IsParts w' pa n L V ∧ Below w.heap.size w w' := by
  obtain ⟨i0, hi, hz0, hz1, hz2⟩ := info_parts info40
  go_enter Try.func12, Try.ntmps12
  go_wp2_with (at_make; refine wpList_make_full _ rfl _ _ 30 rfl w.heap.size 40 i0 (.agg #[.string ⟨#[]⟩, .string ⟨#[]⟩]) 2 Try.underlying30 hi hz0 hz1 _ _ _ _ n rfl rfl (by omega) (by omega) (by rw [hz2]; omega) (by unfold maxLen; omega) (by simp) ?_; intro w1 hown1 hgrow1)
  have J0 : Hid (Laid w w1 n L V 0) := by
    refine ⟨_, by simpa using hown1, fun j hj => absurd hj (by omega), ?_, ((Below.refl _ w).alloc (Nat.le_refl _) _).grown hgrow1 (by simp) (fun _ h => by cases h)⟩
    rw [hgrow1.block w.heap.size (by simp) (by simp)]
    exact heap_alloc_new w _
  clear hown1 hgrow1
  go_loopw [6] (fun i wr => ∃ k : Nat, k ≤ n ∧ i = .int .i64 k ∧ Laid w wr n L V k) (fun i _ => n - (intOf i).toNat)
  case atStart => exact ⟨0, Nat.zero_le _, rfl, J0.out⟩
  case round =>
    obtain ⟨k, hk, rfl, inv⟩ := hrel
    have J := hide inv
    clear inv J0
    by_cases hlt : k < n
    · obtain ⟨b, off, rfl, hb, hc⟩ := hl.out (by omega)
      obtain ⟨b2, off2, rfl, hb2, hc2⟩ := hv.out (by omega)
      have c0 := hc k hlt
      have c1 := hc2 k hlt
      obtain ⟨u0, u1, e0, e1, f0, f1⟩ := J.out.cells hlt
      obtain ⟨_, _, _, _, bel⟩ := J.out
      rw [← bel.cell (p := ⟨b, off + k, none⟩) hb] at c0
      rw [← bel.cell (p := ⟨b2, off2 + k, none⟩) hb2] at c1
      have J1 := hide (J.out.step hlt).drew
      clear hc hc2 bel
      go_wp2
      go_region
      all_goals go_wp2
      all_goals exact ⟨⟨k + 1, by omega, by go_num, J1.out⟩, by simp [intOf]; omega⟩
    · have hkn : k = n := by omega
      subst hkn
      obtain ⟨xs, h1, h2, h3, h4⟩ := J.out
      have hc := cell_of_one h3
      have hf := free_of_one h3
      have H1 := hide h1
      have H2 := hide h2
      have H4 := hide h4
      have H3 := hide h3
      clear h1 h2 h3 h4
      go_wp2
      have hcs : (wr.setCell ⟨w.heap.size, 0, none⟩ (.slice (some ⟨w.heap.size + 1, 0, none⟩) k k)).cell? ⟨w.heap.size, 0, none⟩ = some (.slice (some ⟨w.heap.size + 1, 0, none⟩) k k) := World.cell?_setCell_same _ _ _ hc
      refine bodyPost_ret (v := .agg #[.slice (some ⟨w.heap.size + 1, 0, none⟩) k k]) (by simp [results, Try.results12, go_sem, hcs]) rfl ⟨_, rfl, ?_, H4.out.setCell (p := ⟨w.heap.size, 0, none⟩) (by simp) _⟩
      intro hpos
      have hlt2 := (H1.out.lt _ rfl).2
      refine ⟨w.heap.size + 1, 0, rfl, by simpa [World.setCell] using hlt2, fun j hj => ?_⟩
      obtain ⟨a1, a2⟩ := H2.out j hj
      have ne : ∀ q, (⟨w.heap.size, 0, none⟩ : Addr) ≠ ⟨w.heap.size + 1, q, none⟩ := fun q h => by
        have := congrArg Addr.block h
        simp at this
      refine ⟨?_, ?_⟩
      · rw [Nat.zero_add, World.cell?_setCell_other _ _ _ _ (ne _), H1.out.cellAt _ (by omega)]; exact a1
      · rw [Nat.zero_add, World.cell?_setCell_other _ _ _ _ (ne _), H1.out.cellAt _ (by omega)]; exact a2
end Go.Proofs.Qxb6613449a.ex
