/- The contract of ZZnsecAdd. -/
import Derived.Test.Qxb6613494aAdd
namespace Go.Proofs.Qxb6613494a.nq
open Go.ChangeShapes Go.WideShapes Go.ChangeAt Go.RowKit

set_option maxHeartbeats 1000000 in
theorem zadd_true (Q B : Nat) (i : Int) (v : Value) (es : List (Nat × Int)) (w : World)
    (hQ : w.heap[Q]? = some (.cells #[v] 34 (0, 0))) (hv : w.ownsRow B 43 3 v es.length (ecells es)) (hB : B ≤ w.heap.size) (hm : es.length ≤ 1000000) :
    Calls Try.prog 7 #[.pointer (some ⟨Q, 0, none⟩), .int .i64 i, .bool true] w fun e w' => e = .returned (.slice none 0 0) ∧
      ∃ v' N, w'.heap[Q]? = some (.cells #[v'] 34 (0, 0)) ∧ w'.ownsRow B 43 3 v' (es.length + 1) (ecells (es ++ [(N, i)])) ∧ Fr (fun k => k = Q ∨ v.ownBlock = some k) w w' := by
  have hlt := lt_of_block hQ
  have HQ := hide hQ
  have HV := hide hv
  clear hQ hv
  go_enter Try.func7, Try.ntmps7
  go_wp2_with fail
  refine (add_true Q (w.heap.size + 1) B i v _ es _ ?_ ((HV.out.alloc _).alloc _) (by simp; omega) hm ?_).mono ?_
  · rw [Below.heap_alloc _ _ _ (by simp; omega), Below.heap_alloc _ _ _ hlt]; exact HQ.out
  · simp
  rintro e w2 ⟨rfl, v', r1, r2, r3⟩
  have hG : w2.heap[w.heap.size]? = some (.cells #[.slice none 0 0] 26 (0, 0)) := by
    rw [r3.block w.heap.size (by simp; omega) ?_, Below.heap_alloc _ _ _ (by simp)]
    · exact heap_alloc_new w _
    · rintro (h | h)
      · omega
      · have := (HV.out.lt _ h).2
        omega
  have hc := cell_of_one hG
  have R1 := hide r1
  have R2 := hide r2
  have R3 := hide r3
  clear r1 r2 r3 hG
  go_wp2
  go_ret
  exact ⟨rfl, v', w.heap.size + 1, R1.out, R2.out, (((Fr.refl _ w).alloc _).alloc _).trans R3.out⟩

set_option maxHeartbeats 1000000 in
theorem zadd_false (Q B : Nat) (i : Int) (v : Value) (es : List (Nat × Int)) (w : World)
    (hQ : w.heap[Q]? = some (.cells #[v] 34 (0, 0))) (hv : w.ownsRow B 43 3 v es.length (ecells es)) (hB : B ≤ w.heap.size) (hm : es.length ≤ 1000000) :
    Calls Try.prog 7 #[.pointer (some ⟨Q, 0, none⟩), .int .i64 i, .bool false] w fun e w' => ∃ gv' v' N, e = .returned gv' ∧
      w'.ownsRow w.heap.size 3 1 gv' es.length ((es.map (·.2)).map (Value.int .i64)) ∧
      w'.heap[Q]? = some (.cells #[v'] 34 (0, 0)) ∧ w'.ownsRow B 43 3 v' 1 (ecells [(N, i)]) ∧ Fr (fun k => k = Q ∨ v.ownBlock = some k) w w' := by
  have hlt := lt_of_block hQ
  have HQ := hide hQ
  have HV := hide hv
  clear hQ hv
  go_enter Try.func7, Try.ntmps7
  go_wp2_with fail
  refine (add_false Q (w.heap.size + 1) w.heap.size B w.heap.size 0 i ⟨#[]⟩ v (.slice none 0 0) [] es _ ?_ ((HV.out.alloc _).alloc _) (by simp; omega) ?_ (World.ownsRow_nil _ _ _ _) (by simp; omega) (by omega) ?_ ?_).mono ?_
  · rw [Below.heap_alloc _ _ _ (by simp; omega), Below.heap_alloc _ _ _ hlt]; exact HQ.out
  · rw [Below.heap_alloc _ _ _ (by simp)]; exact heap_alloc_new w _
  · simp
  · simp
  rintro e w2 ⟨rfl, v', gv', r1, r2, r3, r4, r5⟩
  have hc := cell_of_one r3
  have R1 := hide r1
  have R2 := hide r2
  have R4 := hide r4
  have R5 := hide r5
  clear r1 r2 r3 r4 r5
  go_wp2
  go_ret
  refine ⟨gv', v', w.heap.size + 1, rfl, ?_, R1.out, R2.out, ?_⟩
  · simpa using R4.out
  · exact (((Fr.refl _ w).alloc _).alloc _).then R5.out (fun k hk h => by
      rcases h with h | h | h | h
      · exact .inl h
      · exact .inr h
      · omega
      · cases h)
end Go.Proofs.Qxb6613494a.nq
