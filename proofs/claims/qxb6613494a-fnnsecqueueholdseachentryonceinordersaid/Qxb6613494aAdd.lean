/- The contract of (*nsecQueue).add. -/
import Derived.Test.Qxb6613494aRelease
import Derived.Deep.RegionLaw
namespace Go.Proofs.Qxb6613494a.nq
open Go.ChangeShapes Go.WideShapes Go.ChangeAt Go.RowKit

/-! ### What the statement 'q.waiting = append(q.waiting, e)' does to memory, ahead of the walks -/
theorem queue_kept {wA w1 : World} {Q B n : Nat} {v : Value} {xs : List Value} {o : Obj} (hQ : wA.heap[Q]? = some (.cells #[v] 34 (0, 0))) (hv : wA.ownsRow B 43 3 v n xs)
    (hgrow : (wA.alloc o).drew.grownBy w1 v.ownBlock) : w1.heap[Q]? = some (.cells #[v] 34 (0, 0)) := by
  have hlt := lt_of_block hQ
  rw [hgrow.block Q (by show Q < (wA.heap.push _).size; simp; omega) (fun e => owns_ne hv hQ (by decide) e.symm)]
  show (wA.alloc o).heap[Q]? = _
  rw [Below.heap_alloc _ _ _ hlt, hQ]

theorem ecells_snoc (es : List (Nat × Int)) (N : Nat) (i : Int) : ecells es ++ [.pointer (some ⟨N, 0, none⟩), .int .i64 i, .string ⟨#[]⟩] = ecells (es ++ [(N, i)]) := by
  simp [ecells, List.flatMap_append]

theorem add_fin {wA w1 : World} {Q B N n cap g : Nat} {i : Int} {v : Value} {es : List (Nat × Int)} {o : Obj} (hQ : wA.heap[Q]? = some (.cells #[v] 34 (0, 0))) (hv : wA.ownsRow B 43 3 v n (ecells es))
    (hgrow : (wA.alloc o).drew.grownBy w1 v.ownBlock)
    (hown : w1.ownsRow B 43 3 (.slice (some ⟨g, 0, none⟩) (n + 1) cap) (n + 1) (ecells es ++ [.pointer (some ⟨N, 0, none⟩), .int .i64 i, .string ⟨#[]⟩])) :
    ∃ v', (w1.setCell ⟨Q, 0, none⟩ (.slice (some ⟨g, 0, none⟩) (n + 1) cap)).heap[Q]? = some (.cells #[v'] 34 (0, 0)) ∧
      (w1.setCell ⟨Q, 0, none⟩ (.slice (some ⟨g, 0, none⟩) (n + 1) cap)).ownsRow B 43 3 v' (n + 1) (ecells (es ++ [(N, i)])) ∧
      Fr (fun k => k = Q ∨ v.ownBlock = some k) wA (w1.setCell ⟨Q, 0, none⟩ (.slice (some ⟨g, 0, none⟩) (n + 1) cap)) := by
  have hQ1 := queue_kept hQ hv hgrow
  refine ⟨_, one_setCell hQ1, ?_, ?_⟩
  · rw [← ecells_snoc]
    exact ownsRow_setCell_other hown (owns_ne hown hQ1 (by decide)) _
  · exact ((((Fr.refl (fun k => k = Q ∨ v.ownBlock = some k) wA).alloc o).drew).grown hgrow (fun k hk => .inr (.inr hk))).setCell (.inr (.inl rfl)) _

set_option maxHeartbeats 1000000 in
theorem add_true (Q N B : Nat) (i : Int) (v fv : Value) (es : List (Nat × Int)) (w : World)
    (hQ : w.heap[Q]? = some (.cells #[v] 34 (0, 0))) (hv : w.ownsRow B 43 3 v es.length (ecells es)) (hB : B ≤ w.heap.size) (hm : es.length ≤ 1000000)
    (h3 : w.cell? ⟨N, 3, none⟩ = some (.bool true)) :
    Calls Try.prog 9 #[.pointer (some ⟨Q, 0, none⟩), .agg #[.pointer (some ⟨N, 0, none⟩), .int .i64 i, .string ⟨#[]⟩], fv] w fun e w' => e = .returned (.tuple #[]) ∧
      ∃ v', w'.heap[Q]? = some (.cells #[v'] 34 (0, 0)) ∧ w'.ownsRow B 43 3 v' (es.length + 1) (ecells (es ++ [(N, i)])) ∧ Fr (fun k => k = Q ∨ v.ownBlock = some k) w w' := by
  obtain ⟨i0, hi, hz0, hz1, hz2⟩ := info_parts Try.info43
  have hc := cell_of_one hQ
  have hf := free_of_one hQ
  have hlt := lt_of_block hQ
  have hNlt : N < w.heap.size := World.block_lt_of_cell? w _ h3
  have HQ : Hid ((w.alloc (.cells #[.pointer (some ⟨N, 0, none⟩), .int .i64 i, .string ⟨#[]⟩] 43)).heap[Q]? = some (.cells #[v] 34 (0, 0))) := (Below.heap_alloc _ _ _ hlt).trans hQ
  have HV := hide (hv.alloc (.cells #[.pointer (some ⟨N, 0, none⟩), .int .i64 i, .string ⟨#[]⟩] 43))
  clear hQ hv
  go_enter Try.func9, Try.ntmps9
  go_wp2
  go_region_law (refine step_append_lies _ rfl (.tmp 24) (.tmp 26) 32 rfl B 43 i0 (.agg #[.pointer none, .int .i64 0, .string ⟨#[]⟩]) 3 32 Try.underlying32 hi hz0 hz1 hz2 rfl (by decide) v es.length (ecells es) (by simp [Act.eval]) ((HV.out.alloc _).drew) ⟨w.heap.size + 1, 0, none⟩ 1 1 [.pointer (some ⟨N, 0, none⟩), .int .i64 i, .string ⟨#[]⟩] (by simp [Act.eval]) rfl (by intro j u hj; match j, hj with | 0, hj => simp at hj; subst hj; simp [Addr.add] | 1, hj => simp at hj; subst hj; simp [Addr.add] | 2, hj => simp at hj; subst hj; simp [Addr.add]) (by intro u hu; simp at hu; rcases hu with rfl | rfl | rfl <;> rfl) (by omega) (by unfold maxLen; omega) (by omega) (by simp; omega) _ rfl ?_; intro g cap w1 hown hgrow hat hltg; have hQ1 := queue_kept HQ.out HV.out hgrow; have hc1 := cell_of_one hQ1; have hf1 := free_of_one hQ1; have HR := hide (add_fin HQ.out HV.out hgrow hown); clear hown hgrow hat hltg hQ1)
  all_goals go_wp2
  all_goals go_end0
  all_goals
    obtain ⟨v', r1, r2, r3⟩ := HR.out
    exact ⟨rfl, v', r1, r2, ((Fr.refl _ w).alloc _).trans r3⟩

/-- two rows of different element types lie in different blocks -/
theorem rows_ne {w : World} {b1 b2 : Nat} {e1 e2 : TypeId} {s1 s2 n1 n2 : Nat} {v1 v2 : Value} {x1 x2 : List Value} (h1 : w.ownsRow b1 e1 s1 v1 n1 x1) (h2 : w.ownsRow b2 e2 s2 v2 n2 x2) (he : e1 ≠ e2)
    {k : Nat} (hk1 : v1.ownBlock = some k) (hk2 : v2.ownBlock = some k) : False := by
  obtain ⟨_, c1, hc1⟩ := owns_block h1 hk1
  obtain ⟨_, c2, hc2⟩ := owns_block h2 hk2
  rw [hc1] at hc2
  simp at hc2
  exact he hc2.2

set_option maxHeartbeats 1000000 in
theorem add_false (Q N G B base m : Nat) (i : Int) (s : ByteArray) (v gv : Value) (L : List Int) (es : List (Nat × Int)) (w : World)
    (hQ : w.heap[Q]? = some (.cells #[v] 34 (0, 0))) (hv : w.ownsRow B 43 3 v es.length (ecells es)) (hB : B ≤ w.heap.size)
    (hG : w.heap[G]? = some (.cells #[gv] 26 (0, 0))) (hown : w.ownsRow base 3 1 gv m (L.map (Value.int .i64))) (hb : base ≤ w.heap.size) (hm : m + es.length ≤ 1000000)
    (h0 : w.cell? ⟨N, 0, none⟩ = some (.string s)) (h3 : w.cell? ⟨N, 3, none⟩ = some (.bool false)) :
    Calls Try.prog 9 #[.pointer (some ⟨Q, 0, none⟩), .agg #[.pointer (some ⟨N, 0, none⟩), .int .i64 i, .string ⟨#[]⟩], .func (.func 10) #[] #[.pointer (some ⟨G, 0, none⟩)]] w fun e w' => e = .returned (.tuple #[]) ∧
      ∃ v' gv', w'.heap[Q]? = some (.cells #[v'] 34 (0, 0)) ∧ w'.ownsRow B 43 3 v' 1 (ecells [(N, i)]) ∧
        w'.heap[G]? = some (.cells #[gv'] 26 (0, 0)) ∧ w'.ownsRow base 3 1 gv' (m + es.length) ((L ++ es.map (·.2)).map (Value.int .i64)) ∧
        Fr (fun k => k = Q ∨ v.ownBlock = some k ∨ k = G ∨ gv.ownBlock = some k) w w' := by
  obtain ⟨i0, hi, hz0, hz1, hz2⟩ := info_parts Try.info43
  have hlt := lt_of_block hQ
  have hltG := lt_of_block hG
  have hNlt : N < w.heap.size := World.block_lt_of_cell? w _ h3
  have HQ : Hid ((w.alloc (.cells #[.pointer (some ⟨N, 0, none⟩), .int .i64 i, .string ⟨#[]⟩] 43)).heap[Q]? = some (.cells #[v] 34 (0, 0))) := (Below.heap_alloc _ _ _ hlt).trans hQ
  have HV := hide (hv.alloc (.cells #[.pointer (some ⟨N, 0, none⟩), .int .i64 i, .string ⟨#[]⟩] 43))
  have HG : Hid ((w.alloc (.cells #[.pointer (some ⟨N, 0, none⟩), .int .i64 i, .string ⟨#[]⟩] 43)).heap[G]? = some (.cells #[gv] 26 (0, 0))) := (Below.heap_alloc _ _ _ hltG).trans hG
  have HO := hide (hown.alloc (.cells #[.pointer (some ⟨N, 0, none⟩), .int .i64 i, .string ⟨#[]⟩] 43))
  have HL := hide hown.lt
  clear hQ hv hG hown
  go_enter Try.func9, Try.ntmps9
  go_wp2_with fail
  refine (release_any Q G base B m s v gv L es _ HQ.out HV.out HG.out HO.out (by simp; omega) hm).mono ?_
  rintro e w2 ⟨rfl, v2, gv2, k1, k2, k3, k4, k5, k6⟩
  have hE : w2.heap[w.heap.size]? = some (.cells #[.pointer (some ⟨N, 0, none⟩), .int .i64 i, .string ⟨#[]⟩] 43 (0, 0)) := by
    rw [k6.block w.heap.size (by simp) ?_]
    · exact heap_alloc_new w _
    · rintro (h | h | h)
      · omega
      · omega
      · have := (HL.out _ h).2
        omega
  have hc := cell_of_one k1
  have hf := free_of_one k1
  have e0 : w2.cell? ⟨w.heap.size, 0, none⟩ = some (.pointer (some ⟨N, 0, none⟩)) := cell_of_row w2 _ 0 _ _ _ hE
  have e1 : w2.cell? ⟨w.heap.size, 1, none⟩ = some (.int .i64 i) := cell_of_row w2 _ 1 _ _ _ hE
  have e2 : w2.cell? ⟨w.heap.size, 2, none⟩ = some (.string ⟨#[]⟩) := cell_of_row w2 _ 2 _ _ _ hE
  have hw2 : w.heap.size + 1 ≤ w2.heap.size := by simpa using k6.size
  have hQ2 : Q < w2.heap.size := by omega
  have K1 := hide k1
  have K2 := hide k2
  have K3 := hide k3
  have K4 := hide k4
  have K5 := hide k5
  have K6 := hide k6
  clear k1 k2 k3 k4 k5 k6 hE
  go_wp2
  go_region_law (refine step_append_lies _ rfl (.tmp 24) (.tmp 26) 32 rfl B 43 i0 (.agg #[.pointer none, .int .i64 0, .string ⟨#[]⟩]) 3 32 Try.underlying32 hi hz0 hz1 hz2 rfl (by decide) v2 0 (ecells []) (by simp [Act.eval]) ((K2.out.alloc _).drew) ⟨w2.heap.size, 0, none⟩ 1 1 [.pointer (some ⟨N, 0, none⟩), .int .i64 i, .string ⟨#[]⟩] (by simp [Act.eval]) rfl (by intro j u hj; match j, hj with | 0, hj => simp at hj; subst hj; simp [Addr.add] | 1, hj => simp at hj; subst hj; simp [Addr.add] | 2, hj => simp at hj; subst hj; simp [Addr.add]) (by intro u hu; simp at hu; rcases hu with rfl | rfl | rfl <;> rfl) (by omega) (by unfold maxLen; omega) (by omega) (by simp; omega) _ rfl ?_; intro g cap w1 hown hgrow hat hltg; have hQ1 := queue_kept K1.out K2.out hgrow; have hc1 := cell_of_one hQ1; have hf1 := free_of_one hQ1; have HR := hide (add_fin (es := []) K1.out K2.out hgrow hown); clear hown hgrow hat hltg hQ1)
  all_goals go_wp2
  all_goals go_end0
  all_goals
    obtain ⟨v', r1, r2, r3⟩ := HR.out
    refine ⟨rfl, v', gv2, r1, r2, ?_, ?_, ?_⟩
    · rw [r3.block G (lt_of_block K4.out) ?_]
      · exact K4.out
      · rintro (h | h)
        · have := K4.out
          rw [h, K1.out] at this
          simp at this
        · exact owns_ne K2.out K4.out (by decide) h
    · exact owns_of_block K5.out (fun k hk => r3.block k (K5.out.lt k hk).2 (by
        rintro (h | h)
        · exact owns_ne K5.out K1.out (by decide) (h ▸ hk)
        · exact rows_ne K5.out K2.out (by decide) hk h))
    · exact (((Fr.refl _ w).alloc _).then K6.out (fun k _ h => by
        rcases h with h | h | h
        · exact .inl h
        · exact .inr (.inr (.inl h))
        · exact .inr (.inr (.inr h)))).then r3 (fun k _ h => by
        rcases h with h | h
        · exact .inl h
        · exact .inr (.inl (K3.out ▸ h)))
end Go.Proofs.Qxb6613494a.nq
