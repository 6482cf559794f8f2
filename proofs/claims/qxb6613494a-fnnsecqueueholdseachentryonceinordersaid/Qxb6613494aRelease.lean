/- The contract of (*nsecQueue).release. -/
import Derived.Test.Qxb6613494aSmall
namespace Go.Proofs.Qxb6613494a.nq
open Go.ChangeShapes Go.WideShapes Go.ChangeAt Go.RowKit

/-- the cells of the entries (node pointer, index) of the queue: the field next is still unset -/
def ecells (es : List (Nat × Int)) : List Value := es.flatMap fun e => [.pointer (some ⟨e.1, 0, none⟩), .int .i64 e.2, .string ⟨#[]⟩]

theorem ecells_length (es : List (Nat × Int)) : (ecells es).length = es.length * 3 := by
  induction es with
  | nil => rfl
  | cons e es ih =>
    have : ecells (e :: es) = [.pointer (some ⟨e.1, 0, none⟩), .int .i64 e.2, .string ⟨#[]⟩] ++ ecells es := rfl
    rw [this, List.length_append, ih]
    simp
    omega

theorem ecells_at (es : List (Nat × Int)) : ∀ (k : Nat) (h : k < es.length),
    (ecells es)[k * 3]? = some (.pointer (some ⟨es[k].1, 0, none⟩)) ∧ (ecells es)[k * 3 + 1]? = some (.int .i64 es[k].2) ∧ (ecells es)[k * 3 + 2]? = some (.string ⟨#[]⟩) := by
  induction es with
  | nil => intro k h; simp at h
  | cons e es ih =>
    intro k h
    have e0 : ecells (e :: es) = [.pointer (some ⟨e.1, 0, none⟩), .int .i64 e.2, .string ⟨#[]⟩] ++ ecells es := rfl
    match k, h with
    | 0, h => rw [e0]; exact ⟨rfl, rfl, rfl⟩
    | k + 1, h =>
      obtain ⟨h1, h2, h3⟩ := ih k (by simpa using h)
      rw [e0]
      refine ⟨?_, ?_, ?_⟩
      · rw [List.getElem?_append_right (by simp; omega), show (k + 1) * 3 - [Value.pointer (some ⟨e.1, 0, none⟩), .int .i64 e.2, .string ⟨#[]⟩].length = k * 3 from by simp; omega]
        simpa using h1
      · rw [List.getElem?_append_right (by simp; omega), show (k + 1) * 3 + 1 - [Value.pointer (some ⟨e.1, 0, none⟩), .int .i64 e.2, .string ⟨#[]⟩].length = k * 3 + 1 from by simp; omega]
        simpa using h2
      · rw [List.getElem?_append_right (by simp; omega), show (k + 1) * 3 + 2 - [Value.pointer (some ⟨e.1, 0, none⟩), .int .i64 e.2, .string ⟨#[]⟩].length = k * 3 + 2 from by simp; omega]
        simpa using h3

set_option maxHeartbeats 1000000 in
theorem release_some (Q G base B m g cap : Nat) (s : ByteArray) (gv : Value) (L : List Int) (es : List (Nat × Int)) (w : World)
    (hQ : w.heap[Q]? = some (.cells #[.slice (some ⟨g, 0, none⟩) es.length cap] 34 (0, 0))) (hv : w.ownsRow B 43 3 (.slice (some ⟨g, 0, none⟩) es.length cap) es.length (ecells es))
    (hG : w.heap[G]? = some (.cells #[gv] 26 (0, 0))) (hown : w.ownsRow base 3 1 gv m (L.map (Value.int .i64))) (hb : base ≤ w.heap.size) (hm : m + es.length ≤ 1000000) :
    Calls Try.prog 11 #[.pointer (some ⟨Q, 0, none⟩), .agg #[.string s], .func (.func 10) #[] #[.pointer (some ⟨G, 0, none⟩)]] w fun e w' => e = .returned (.tuple #[]) ∧
      ∃ gv', w'.heap[Q]? = some (.cells #[.slice (some ⟨g, 0, none⟩) 0 cap] 34 (0, 0)) ∧
        w'.heap[G]? = some (.cells #[gv'] 26 (0, 0)) ∧ w'.ownsRow base 3 1 gv' (m + es.length) ((L ++ es.map (·.2)).map (Value.int .i64)) ∧ Fr (fun k => k = Q ∨ k = G ∨ gv.ownBlock = some k) w w' := by
  have hc := cell_of_one hQ
  have hf := free_of_one hQ
  have hlt := lt_of_block hQ
  have HQ := hide hQ
  have HV := hide hv
  have HG := hide hG
  have HO := hide hown
  clear hQ hv hG hown
  go_enter Try.func11, Try.ntmps11
  go_wp2
  go_loopw [13] (fun i wr => ∃ k : Nat, k ≤ es.length ∧ i = .int .i64 k ∧ ∃ gv', wr.heap[G]? = some (.cells #[gv'] 26 (0, 0)) ∧ wr.ownsRow base 3 1 gv' (m + k) ((L ++ (es.take k).map (·.2)).map (Value.int .i64)) ∧
      Fr (fun k => k = G ∨ gv.ownBlock = some k) w wr ∧ (∀ k, gv'.ownBlock = some k → gv.ownBlock = some k ∨ w.heap.size ≤ k) ∧ wr.heap[w.heap.size]? = some (.cells #[.string s] 38 (0, 0)))
    (fun i _ => es.length - (intOf i).toNat)
  case atStart =>
    refine ⟨0, Nat.zero_le _, rfl, gv, ?_, ?_, (Fr.refl _ w).alloc _, fun _ h => .inl h, heap_alloc_new w _⟩
    · rw [Below.heap_alloc _ _ _ (lt_of_block HG.out)]; exact HG.out
    · simpa using HO.out.alloc _
  case round =>
    obtain ⟨k, hk, rfl, gv', hG', hown', hfr, hat, hS⟩ := hrel
    have hs := cell_of_one hS
    have HS := hide hS
    clear hS
    have hgr : wr.heap[g]? = w.heap[g]? := by
      obtain ⟨_, cur, hcur⟩ := owns_block HV.out (g := g) rfl
      refine hfr.block g (lt_of_block hcur) ?_
      rintro (rfl | h)
      · rw [HG.out] at hcur; simp at hcur
      · obtain ⟨_, cur', hcur'⟩ := owns_block HO.out h
        rw [hcur'] at hcur; simp at hcur
    have hvr := owns_of_block HV.out (w' := wr) (fun g' hg' => by
      have e : g = g' := by simpa [Value.ownBlock] using hg'
      subst e; exact hgr)
    have HVR := hide hvr
    have HG' := hide hG'
    have HO' := hide hown'
    have HF := hide hfr
    have HA := hide hat
    clear hgr hvr hG' hown' hfr hat
    by_cases hkl : k < es.length
    · obtain ⟨c0, c1, c2⟩ := ecells_at es k hkl
      rw [← HVR.out.cellAt _ (by omega)] at c0 c1 c2
      obtain ⟨p, hp⟩ : ∃ p, p = es[k].1 := ⟨_, rfl⟩
      obtain ⟨ei, hei⟩ : ∃ ei, ei = es[k].2 := ⟨_, rfl⟩
      rw [← hp] at c0
      rw [← hei] at c1
      have HE := hide hei
      have hwl : w.heap.size < wr.heap.size := World.block_lt_of_cell? wr _ hs
      clear hp hei
      go_wp2_with fail
      refine (push_any p G base (m + k) ei s gv' _ _ (by rw [Below.heap_alloc _ _ _ (lt_of_block HG'.out)]; exact HG'.out) (HO'.out.alloc _) (by simp; omega) (by omega)).mono ?_
      rintro e w2 ⟨rfl, gv2, hG2, hO2, hF2, hA2⟩
      have HG2 := hide hG2
      have HO2 := hide hO2
      have HF2 := hide hF2
      clear hG2 hO2 hF2
      go_wp2
      go_roundw
      case rel =>
        refine ⟨k + 1, by omega, by go_num, gv2, HG2.out, ?_, ?_, ?_, ?_⟩
        · have e1 : L ++ (es.take (k + 1)).map (·.2) = L ++ (es.take k).map (·.2) ++ [ei] := by
            rw [List.take_succ_eq_append_getElem hkl, List.map_append, HE.out, List.append_assoc]; rfl
          rw [e1]
          exact HO2.out
        · exact (HF.out.alloc _).then HF2.out (fun i hi h => by
            rcases h with h | h
            · exact .inl h
            · rcases HA.out i h with h' | h'
              · exact .inr h'
              · omega)
        · intro i h
          rcases hA2.out i h with h' | h'
          · exact HA.out i h'
          · exact .inr (by simp at h'; omega)
        · rw [HF2.out.block w.heap.size (by simp; omega) ?_, Below.heap_alloc _ _ _ hwl]
          · exact HS.out
          · rintro (h | h)
            · have := HG'.out
              rw [← h, HS.out] at this
              simp at this
            · exact owns_ne HO'.out HS.out (by decide) h
      case measure => simp [intOf]; omega
    · have hkn : k = es.length := by omega
      subst hkn
      have hQr : wr.heap[Q]? = some (.cells #[.slice (some ⟨g, 0, none⟩) es.length cap] 34 (0, 0)) := by
        rw [HF.out.block Q hlt ?_]
        · exact HQ.out
        · rintro (h | h)
          · have := HG.out
            rw [← h, HQ.out] at this
            simp at this
          · exact owns_ne HO.out HQ.out (by decide) h
      have hcr := cell_of_one hQr
      have hfr := free_of_one hQr
      have HQR := hide hQr
      clear hQr
      go_wp2
      go_end0
      have hGQ : G ≠ Q := by
        rintro rfl
        have := HG.out
        rw [HQ.out] at this
        simp at this
      refine ⟨rfl, gv', one_setCell HQR.out, ?_, ?_, ?_⟩
      · rw [Below.heap_setCell _ _ _ _ hGQ]; exact HG'.out
      · have := ownsRow_setCell_other HO'.out (a := ⟨Q, 0, none⟩) (owns_ne HO'.out HQR.out (by decide)) (.slice (some ⟨g, 0, none⟩) 0 cap)
        rwa [List.take_length] at this
      · exact (HF.out.mono (S' := fun k => k = Q ∨ k = G ∨ gv.ownBlock = some k) (fun _ _ h => .inr h)).setCell (.inr (.inl rfl)) _

set_option maxHeartbeats 1000000 in
theorem release_nil (Q G : Nat) (s : ByteArray) (w : World)
    (hQ : w.heap[Q]? = some (.cells #[.slice none 0 0] 34 (0, 0))) :
    Calls Try.prog 11 #[.pointer (some ⟨Q, 0, none⟩), .agg #[.string s], .func (.func 10) #[] #[.pointer (some ⟨G, 0, none⟩)]] w fun e w' => e = .returned (.tuple #[]) ∧
      w'.heap[Q]? = some (.cells #[.slice none 0 0] 34 (0, 0)) ∧ Fr (fun k => k = Q) w w' := by
  have hc := cell_of_one hQ
  have hf := free_of_one hQ
  have hlt := lt_of_block hQ
  have HQ := hide hQ
  clear hQ
  go_enter Try.func11, Try.ntmps11
  go_wp2
  go_loopw [13] (fun i wr => i = .int .i64 0 ∧ wr = w.alloc (.cells #[.string s] 38)) (fun i _ => (intOf i).toNat)
  case atStart => exact ⟨rfl, rfl⟩
  case round =>
    obtain ⟨rfl, rfl⟩ := hrel
    go_wp2
    go_end0
    refine ⟨rfl, ?_, ((Fr.refl (fun k => k = Q) w).setCell (p := ⟨Q, 0, none⟩) (.inr rfl) _).alloc _⟩
    rw [Below.heap_alloc _ _ _ (by simpa [World.setCell] using hlt)]
    exact one_setCell HQ.out

/-- release, for every queue -/
theorem release_any (Q G base B m : Nat) (s : ByteArray) (v gv : Value) (L : List Int) (es : List (Nat × Int)) (w : World)
    (hQ : w.heap[Q]? = some (.cells #[v] 34 (0, 0))) (hv : w.ownsRow B 43 3 v es.length (ecells es))
    (hG : w.heap[G]? = some (.cells #[gv] 26 (0, 0))) (hown : w.ownsRow base 3 1 gv m (L.map (Value.int .i64))) (hb : base ≤ w.heap.size) (hm : m + es.length ≤ 1000000) :
    Calls Try.prog 11 #[.pointer (some ⟨Q, 0, none⟩), .agg #[.string s], .func (.func 10) #[] #[.pointer (some ⟨G, 0, none⟩)]] w fun e w' => e = .returned (.tuple #[]) ∧
      ∃ v' gv', w'.heap[Q]? = some (.cells #[v'] 34 (0, 0)) ∧ w'.ownsRow B 43 3 v' 0 [] ∧ v'.ownBlock = v.ownBlock ∧
        w'.heap[G]? = some (.cells #[gv'] 26 (0, 0)) ∧ w'.ownsRow base 3 1 gv' (m + es.length) ((L ++ es.map (·.2)).map (Value.int .i64)) ∧ Fr (fun k => k = Q ∨ k = G ∨ gv.ownBlock = some k) w w' := by
  have hvv := hv
  rcases hv.2 with ⟨rfl, hn⟩ | ⟨g, cap, cur, rfl, hg1, hg2, hg3, hg4, hg5, hg6⟩
  · have he : es = [] := List.eq_nil_of_length_eq_zero hn
    subst he
    refine (release_nil Q G s w hQ).mono ?_
    rintro e w' ⟨rfl, h1, h2⟩
    have hGQ : G ≠ Q := by
      rintro rfl
      rw [hQ] at hG
      simp at hG
    have hlt := lt_of_block hG
    refine ⟨rfl, _, gv, h1, World.ownsRow_nil _ _ _ _, rfl, ?_, ?_, h2.mono (fun _ _ h => .inl h)⟩
    · rw [h2.block G hlt hGQ]; exact hG
    · have := owns_of_block hown (w' := w') (fun g hg => h2.block g (hown.lt g hg).2 (fun e => owns_ne hown hQ (by decide) (e ▸ hg)))
      simpa using this
  · refine (release_some Q G base B m g cap s gv L es w hQ hvv hG hown hb hm).mono ?_
    rintro e w' ⟨rfl, gv', h1, h2, h3, h4⟩
    have hgl := lt_of_block hg2
    have hgb : w'.heap[g]? = w.heap[g]? := h4.block g hgl (by
      rintro (h | h | h)
      · rw [← h, hg2] at hQ; simp at hQ
      · rw [← h, hg2] at hG; simp at hG
      · obtain ⟨_, cur', hc'⟩ := owns_block hown h
        rw [hg2] at hc'; simp at hc')
    exact ⟨rfl, _, gv', h1, ⟨rfl, .inr ⟨g, cap, cur, rfl, hg1, hgb.trans hg2, Nat.zero_le _, hg4, hg5, by simp⟩⟩, rfl, h2, h3, h4⟩
end Go.Proofs.Qxb6613494a.nq
