/- The contract of ZZnsecWaiting. -/
import Derived.Test.Qxb6613494aZadd
namespace Go.Proofs.Qxb6613494a.nq
open Go.ChangeShapes Go.WideShapes Go.ChangeAt Go.RowKit

theorem owns_shape {w : World} {base : Nat} {e : TypeId} {size : Nat} {v : Value} {n : Nat} {xs : List Value} (h : w.ownsRow base e size v n xs) :
    ∃ ao cap, v = .slice ao n cap ∧ (0 < n → ∃ g, ao = some ⟨g, 0, none⟩) := by
  rcases h.2 with ⟨rfl, rfl⟩ | ⟨g, cap, cur, rfl, _⟩
  · exact ⟨none, 0, rfl, fun h => absurd h (by omega)⟩
  · exact ⟨_, cap, rfl, fun _ => ⟨g, rfl⟩⟩

set_option maxHeartbeats 1000000 in
theorem waiting_shape (Q B cap : Nat) (ao : Option Addr) (es : List (Nat × Int)) (w : World)
    (hQ : w.heap[Q]? = some (.cells #[.slice ao es.length cap] 34 (0, 0))) (hv : w.ownsRow B 43 3 (.slice ao es.length cap) es.length (ecells es)) (hao : Hid (0 < es.length → ∃ g, ao = some ⟨g, 0, none⟩)) (hm : es.length ≤ 1000000) :
    Calls Try.prog 8 #[.pointer (some ⟨Q, 0, none⟩)] w fun e w' => ∃ ov, e = .returned ov ∧
      w'.ownsRow w.heap.size 3 1 ov es.length ((es.map (·.2)).map (Value.int .i64)) ∧ ov ≠ .slice none 0 0 ∧ Fr (fun _ => False) w w' := by
  obtain ⟨i0, hi, hz0, hz1, hz2⟩ := info_parts Try.info3
  have hlt := lt_of_block hQ
  have hc := cell_of_one hQ
  have HQ := hide hQ
  have HV := hide hv
  clear hQ hv
  go_enter Try.func8, Try.ntmps8
  go_wp2_with (at_make; refine wpList_make_own _ rfl _ _ 26 rfl w.heap.size 3 i0 (.int .i64 0) 1 Try.underlying26 hi hz0 hz1 _ _ _ es.length rfl rfl (by omega) (by rw [hz2]; omega) (by unfold maxLen; omega) (by omega) ?_; intro w1 hown1 hgrow1; have hQ1 : w1.heap[Q]? = w.heap[Q]? := hgrow1.block Q hlt (by simp); have hc1 := cell_of_one (hQ1.trans HQ.out); have HO1 := hide hown1; have HG1 := hide hgrow1; clear hQ1 hown1 hgrow1)
  go_loopw [3, 17] (fun ov i wr => ∃ k : Nat, k ≤ es.length ∧ i = .int .i64 k ∧ wr.ownsRow w.heap.size 3 1 ov k (((es.take k).map (·.2)).map (Value.int .i64)) ∧ ov ≠ .slice none 0 0 ∧ Fr (fun _ => False) w wr)
    (fun _ i _ => es.length - (intOf i).toNat)
  case atStart =>
    exact ⟨0, Nat.zero_le _, rfl, by simpa using HO1.out, by simp, (Fr.refl _ w).grown HG1.out (fun _ h => by cases h)⟩
  case round =>
    obtain ⟨k, hk, rfl, hown, hne, hfr⟩ := hrel
    have HO := hide hown
    have HN := hide hne
    have HF := hide hfr
    clear hown hne hfr
    by_cases hkl : k < es.length
    · obtain ⟨g, rfl⟩ := hao.out (by omega)
      have hvr := owns_of_block HV.out (w' := wr) (fun g' hg' => HF.out.block g' (HV.out.lt g' hg').2 (fun h => h))
      obtain ⟨c0, c1, c2⟩ := ecells_at es k hkl
      rw [← hvr.cellAt _ (by omega)] at c0 c1 c2
      obtain ⟨p, hp⟩ : ∃ p, p = es[k].1 := ⟨_, rfl⟩
      obtain ⟨ei, hei⟩ : ∃ ei, ei = es[k].2 := ⟨_, rfl⟩
      rw [← hp] at c0
      rw [← hei] at c1
      have HE := hide hei
      have hsz := HF.out.size
      have HVR := hide hvr
      clear hp hei hvr
      go_wp2_with (at_builtin; refine wpList_append_lies _ rfl (.tmp 21) (.tmp 24) 26 rfl w.heap.size 3 i0 (.int .i64 0) 1 8 Try.underlying26 hi hz0 hz1 hz2 rfl (by decide) _ _ _ rfl ((HO.out.alloc _).alloc _) ⟨wr.heap.size + 1, 0, none⟩ 1 1 [.int .i64 ei] rfl rfl ?c1 ?c2 (by omega) ?c3 ?c4 ?c5 _ rfl ?_)
      case c1 =>
        intro j u hj
        match j, hj with
        | 0, hj => simp at hj; subst hj; simp [Addr.add]
      case c2 => intro u hu; simp at hu; subst hu; rfl
      case c3 => unfold maxLen; omega
      case c4 => omega
      case c5 => simp; omega
      intro g2 cap2 w2 hown2 hgrow2 _ _
      have HO2 := hide hown2
      have HG2 := hide hgrow2
      clear hown2 hgrow2
      go_wp2
      go_roundw
      case rel =>
        refine ⟨k + 1, by omega, by go_num, ?_, by simp, ?_⟩
        · have e1 : ((es.take (k + 1)).map (·.2)).map (Value.int .i64) = List.take k (List.map (Value.int IntKind.i64 ∘ fun x => x.snd) es) ++ [Value.int IntKind.i64 ei] := by
            rw [List.take_succ_eq_append_getElem hkl, List.map_append, List.map_append, HE.out]
            simp [List.map_take]
          rw [e1]
          exact HO2.out
        · exact ((HF.out.alloc _).alloc _).grown HG2.out (fun j hj => .inl (HO.out.lt j hj).1)
      case measure => simp [intOf]; omega
    · have hkn : k = es.length := by omega
      subst hkn
      go_wp2
      go_ret
      exact ⟨_, rfl, by simpa using HO.out, HN.out, HF.out⟩

theorem waiting_any (Q B : Nat) (v : Value) (es : List (Nat × Int)) (w : World)
    (hQ : w.heap[Q]? = some (.cells #[v] 34 (0, 0))) (hv : w.ownsRow B 43 3 v es.length (ecells es)) (hm : es.length ≤ 1000000) :
    Calls Try.prog 8 #[.pointer (some ⟨Q, 0, none⟩)] w fun e w' => ∃ ov, e = .returned ov ∧
      w'.ownsRow w.heap.size 3 1 ov es.length ((es.map (·.2)).map (Value.int .i64)) ∧ ov ≠ .slice none 0 0 ∧ Fr (fun _ => False) w w' := by
  obtain ⟨ao, cap, rfl, hao⟩ := owns_shape hv
  exact waiting_shape Q B cap ao es w hQ hv hao hm
end Go.Proofs.Qxb6613494a.nq
