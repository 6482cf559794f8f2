/- The contracts of ZZnewNsecQueue, ZZnsecWaitingLen and of the closure in ZZnsecAdd. -/
import Derived.Test.Qxb6613494aBase
namespace Go.Proofs.Qxb6613494a.nq
open Go.ChangeShapes Go.WideShapes Go.ChangeAt Go.RowKit

set_option maxHeartbeats 400000 in
theorem new_any (w : World) :
    Calls Try.prog 5 #[] w fun e w' => e = .returned (.pointer (some ⟨w.heap.size, 0, none⟩)) ∧ w' = w.alloc (.cells #[.slice none 0 0] 34) := by
  go_enter Try.func5, Try.ntmps5
  go_wp2
  go_ret
  exact ⟨rfl, rfl⟩

set_option maxHeartbeats 400000 in
theorem len_any (Q n cap : Nat) (a : Option Addr) (w : World) (hq : w.cell? ⟨Q, 0, none⟩ = some (.slice a n cap)) :
    Calls Try.prog 6 #[.pointer (some ⟨Q, 0, none⟩)] w fun e w' => e = .returned (.int .i64 n) ∧ w' = w := by
  go_enter Try.func6, Try.ntmps6
  go_wp2
  go_ret
  exact ⟨rfl, rfl⟩

set_option maxHeartbeats 400000 in
theorem push_any (p G base m : Nat) (i : Int) (s : ByteArray) (gv : Value) (L : List Int) (w : World)
    (hG : w.heap[G]? = some (.cells #[gv] 26 (0, 0))) (hown : w.ownsRow base 3 1 gv m (L.map (Value.int .i64))) (hb : base ≤ w.heap.size) (hm : m ≤ 1000000) :
    Calls Try.prog 10 #[.agg #[.pointer (some ⟨p, 0, none⟩), .int .i64 i, .string s], .pointer (some ⟨G, 0, none⟩)] w fun e w' => e = .returned (.tuple #[]) ∧
      ∃ gv', w'.heap[G]? = some (.cells #[gv'] 26 (0, 0)) ∧ w'.ownsRow base 3 1 gv' (m + 1) ((L ++ [i]).map (Value.int .i64)) ∧ Fr (fun k => k = G ∨ gv.ownBlock = some k) w w' ∧ Hid (∀ k, gv'.ownBlock = some k → gv.ownBlock = some k ∨ w.heap.size ≤ k) := by
  obtain ⟨i0, hi, hz0, hz1, hz2⟩ := info_parts Try.info3
  have hc := cell_of_one hG
  have hf := free_of_one hG
  have hlt := lt_of_block hG
  go_enter Try.func10, Try.ntmps10
  go_wp2_with (at_builtin; refine wpList_append_lies _ rfl (.tmp 3) (.tmp 6) 26 rfl base 3 i0 (.int .i64 0) 1 8 Try.underlying26 hi hz0 hz1 hz2 rfl (by decide) _ _ _ rfl ((hown.alloc _).alloc _) ⟨w.heap.size + 1, 0, none⟩ 1 1 [.int .i64 i] rfl rfl ?c1 ?c2 (by omega) ?c3 ?c4 ?c5 _ rfl ?_)
  case c1 =>
    intro j u hj
    match j, hj with
    | 0, hj => simp at hj; subst hj; simp [Addr.add]
  case c2 => intro u hu; simp at hu; subst hu; rfl
  case c3 => unfold maxLen; omega
  case c4 => omega
  case c5 => simp; omega
  intro g cap w1 hown' hgrow hat hlt'
  have hG1 : w1.heap[G]? = some (.cells #[gv] 26 (0, 0)) := by
    rw [hgrow.block G (by simp; omega) (fun e => owns_ne hown hG (by decide) e.symm), Below.heap_alloc _ _ _ (by simp; omega), Below.heap_alloc _ _ _ hlt, hG]
  have hc1 := cell_of_one hG1
  have hf1 := free_of_one hG1
  have HO := hide hown'
  have HW := hide hgrow
  have HG := hide hG1
  have HA := hide hat
  clear hown' hgrow hat hlt' hG1 hown hG hc hf
  go_wp2
  go_end0
  have hne := owns_ne HO.out HG.out (by decide)
  refine ⟨rfl, _, one_setCell HG.out, ?_, ?_, ?_⟩
  · rw [List.map_append]
    exact ownsRow_setCell_other HO.out hne _
  · refine ((((Fr.refl _ w).alloc _).alloc _).grown HW.out (fun k hk => .inr (.inr hk))).setCell (.inr (.inl rfl)) _
  · intro k hk
    have e : g = k := by simpa [Value.ownBlock] using hk
    subst e
    rcases HA.out with h | h
    · exact .inl h
    · exact .inr (by rw [h]; omega)
end Go.Proofs.Qxb6613494a.nq
