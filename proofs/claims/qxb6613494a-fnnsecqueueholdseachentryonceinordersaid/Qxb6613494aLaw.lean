/- The walk of FnNsecQueueHoldsEachEntryOnceInOrder. -/
import Derived.Test.Qxb6613494aInv
import Derived.Deep.RegionHeld3
namespace Go.Proofs.Qxb6613494a.nq
open Go.ChangeShapes Go.WideShapes Go.ChangeAt Go.RowKit

set_option maxHeartbeats 400000 in
theorem bytes_any (a : Option Addr) (n cap : Nat) (w : World) (hn : n ≤ maxLen) :
    Calls Try.prog 4 #[.slice a n cap] w fun e w' => e = .returned (.bool (decide (n ≤ 1048576))) ∧ w' = w := by
  unfold maxLen at hn
  by_cases h : n ≤ 1048576
  · have hd : decide (n ≤ 1048576) = true := by simpa using h
    have hz : (n : Int) ≤ 1048576 := by omega
    rw [hd]
    clear hd h
    go_enter Try.func4, Try.ntmps4
    go_wp2
    go_ret
    exact ⟨rfl, rfl⟩
  · have hd : decide (n ≤ 1048576) = false := by simpa using h
    have hz : (1048576 : Int) < n := by omega
    rw [hd]
    clear hd h
    go_enter Try.func4, Try.ntmps4
    go_wp2
    go_ret
    exact ⟨rfl, rfl⟩

set_option maxHeartbeats 2000000 in
theorem walk_main (a : Option Addr) (n cap : Nat) (I : Nat → Int) (C : Nat → Bool) (w : World) (hn : n ≤ 65536) (hp : Hid (IsPairs w a n I C)) :
    Calls Try.prog 3 #[.slice a n cap] w fun e w' => e = .returned (.bool true) ∧ Below w.heap.size w w' := by
  obtain ⟨i0, hi, hz0, hz1, hz2⟩ := info_parts Try.info3
  have hd : decide (n ≤ 1048576) = true := by simp; omega
  go_enter Try.func3, Try.ntmps3
  go_wp2_with (first
    | (go_at_call 4; refine (bytes_any _ _ _ _ (by unfold maxLen; omega)).mono ?_; rintro e w' ⟨rfl, hw'⟩; rw [hw']; clear hw' w')
    | (go_at_call 5; refine (new_any _).mono ?_; rintro e w' ⟨rfl, rfl⟩)
    | (at_make; refine wpList_make_own _ rfl _ _ 26 rfl w.heap.size 3 i0 (.int .i64 0) 1 Try.underlying26 hi hz0 hz1 _ _ _ n rfl rfl (by omega) (by rw [hz2]; omega) (by unfold maxLen; omega) (by simp) ?_; intro w1 hown1 hgrow1))
  have hQ1 : w1.heap[w.heap.size]? = some (.cells #[.slice none 0 0] 34 (0, 0)) := (hgrow1.block _ (by simp) (by simp)).trans (heap_alloc_new w _)
  have I0 : Inv w.heap.size w w1 I 0 (.slice (some ⟨w.heap.size + 1, 0, none⟩) 0 n) (.slice none 0 0) [] [] :=
    ⟨hQ1, World.ownsRow_nil _ _ _ _, by simpa using hown1, by simp, by simp, ((Below.refl _ w).alloc (Nat.le_refl _) _).grown hgrow1 (by simp) (fun _ h => by cases h), lt_of_block hQ1⟩
  have J0 := hide I0
  clear hQ1 I0 hown1 hgrow1
  go_wp2
  go_loopw [4, 5] (fun sv j wr => ∃ k : Nat, k ≤ n ∧ j = .int .i64 k ∧ ∃ v es L, Inv w.heap.size w wr I k sv v es L) (fun _ j _ => n - (intOf j).toNat)
  case atStart => exact ⟨0, Nat.zero_le _, rfl, _, _, _, J0.out⟩
  case round =>
    obtain ⟨k, hk, rfl, v, es, L, inv⟩ := hrel
    have hkl := inv.len
    have hel : es.length ≤ k := by omega
    have hLl : L.length ≤ k := by omega
    have J := hide inv
    clear inv hkl J0
    by_cases hlt : k < n
    · obtain ⟨b, off, rfl, hb, hc⟩ := hp.out (by omega)
      obtain ⟨c0, c1⟩ := hc k hlt
      rw [← J.out.below.cell (p := ⟨b, off + k * 2, none⟩) hb] at c0
      rw [← J.out.below.cell (p := ⟨b, off + k * 2 + 1, none⟩) hb] at c1
      have HC := hide hc
      clear hc
      obtain ⟨ao, vcap, hv, _⟩ := owns_shape J.out.row
      subst hv
      cases hC : C k
      · rw [hC] at c1
        go_wp2_with (first
          | (go_at_call 6; refine (len_any w.heap.size es.length vcap ao _ (cell_of_one J.out.queue)).mono ?_; rintro e w' ⟨rfl, hw'⟩; rw [hw']; clear hw' w'))
        go_region_held3 (fun w' => w'.cell? ⟨b, off + k * 2, none⟩ = some (.int .i64 (I k)) ∧ w'.cell? ⟨b, off + k * 2 + 1, none⟩ = some (.bool false)) (first | exact hS1 | go_keep)
          (first
            | (go_at_call 7; refine (zadd_false w.heap.size w.heap.size (I k) (.slice ao es.length vcap) es _ (by exact J.out.queue) (by exact J.out.row) (by exact Nat.le_of_lt J.out.size) (by omega)).mono ?_; rintro e w' ⟨gv, v1, N, rfl, q0, q1, q2, q3⟩; have bel1 := (J.out.drew.kept q3).2; have hS1 : w'.cell? ⟨b, off + k * 2, none⟩ = some (.int .i64 (I k)) ∧ w'.cell? ⟨b, off + k * 2 + 1, none⟩ = some (.bool false) := ⟨(bel1.cell (p := ⟨b, off + k * 2, none⟩) hb).trans (HC.out k hlt).1, (bel1.cell (p := ⟨b, off + k * 2 + 1, none⟩) hb).trans (hC ▸ (HC.out k hlt).2)⟩; have Q0 := hide q0; have Q1 := hide q1; have Q2 := hide q2; have Q3 := hide q3; clear q0 q1 q2 q3 bel1))
        obtain ⟨d0, d1⟩ := hS1
        obtain ⟨ao1, vcap1, hv1, _⟩ := owns_shape Q2.out
        subst hv1
        have t2 : ((1 : Nat) : Int) = 1 := rfl
        rcases Q0.out.2 with ⟨hgv, hes⟩ | ⟨g, gcap, cur, hgv, hg1, hg2, hg3, hg4, hg5, hg6⟩
        · subst hgv
          have J1 := hide (J.out.drew.other_nil N hes Q1.out Q2.out Q3.out)
          have t1 : ((0 : Int) != (es.length : Int)) = false := by simp; omega
          clear hes
          go_wp2_with (first
            | (go_at_call 6; refine (len_any w.heap.size 1 vcap1 ao1 _ (cell_of_one Q1.out)).mono ?_; rintro e w'' ⟨rfl, hw'⟩; rw [hw']; clear hw' w'')
            | (at_builtin; refine wpList_append_own_none rfl (.tmp 64) (.tmp 65) 26 rfl w.heap.size 3 i0 1 Try.underlying26 hi _ _ _ rfl J1.out.seen rfl ?_))
          go_roundw
          case rel => exact ⟨k + 1, by omega, by go_num, _, _, _, J1.out⟩
          case measure => simp [intOf]; omega
        · subst hgv
          clear hg1 hg2 hg3 hg4 hg5 hg6
          obtain ⟨hs1, hs2⟩ := J.out.drew.kept Q3.out
          have HS1 := hide hs1
          clear hs1 hs2
          go_wp2_with (first
            | (go_at_call 6; refine (len_any w.heap.size 1 vcap1 ao1 _ (cell_of_one Q1.out)).mono ?_; rintro e w'' ⟨rfl, hw'⟩; rw [hw']; clear hw' w'')
            | (at_builtin; refine wpList_append_own _ rfl (.tmp 64) (.tmp 65) 26 rfl w.heap.size 3 i0 (.int .i64 0) 1 8 Try.underlying26 hi hz0 hz1 hz2 rfl (by decide) _ _ _ rfl HS1.out ⟨g, 0, none⟩ es.length gcap ((es.map (·.2)).map (Value.int .i64)) rfl (by simp) ?d1 ?d2 ?d3 ?d4 ?d5 ?_))
          case d1 => exact Q0.out.cells (g := g) rfl
          case d2 =>
            intro u hu
            simp at hu
            obtain ⟨_, x, _, rfl⟩ := hu
            rfl
          case d3 => unfold maxLen; omega
          case d4 => omega
          case d5 => exact Nat.le_of_lt (lt_of_block Q1.out)
          intro sv2 w2 hown2 hgrow2 hiff
          have J1 := hide (J.out.drew.other_step N Q1.out Q2.out Q3.out (by rw [List.map_map]; exact hown2) hgrow2 (fun e => J.out.made (hiff.1 e).1))
          clear hown2 hgrow2 hiff
          go_wp2
          go_roundw
          case rel => exact ⟨k + 1, by omega, by go_num, _, _, _, J1.out⟩
          case measure => simp [intOf]; omega
      · rw [hC] at c1
        go_wp2_with (first
          | (go_at_call 6; refine (len_any w.heap.size es.length vcap ao _ (cell_of_one J.out.queue)).mono ?_; rintro e w' ⟨rfl, hw'⟩; rw [hw']; clear hw' w'))
        go_region_held3 (fun w' => w'.cell? ⟨b, off + k * 2, none⟩ = some (.int .i64 (I k)) ∧ w'.cell? ⟨b, off + k * 2 + 1, none⟩ = some (.bool true)) (first | exact hS1 | go_keep)
          (first
            | (go_at_call 7; refine (zadd_true w.heap.size w.heap.size (I k) (.slice ao es.length vcap) es _ (by exact J.out.queue) (by exact J.out.row) (by exact Nat.le_of_lt J.out.size) (by omega)).mono ?_; rintro e w' ⟨rfl, v1, N, q1, q2, q3⟩; have J1 := hide (J.out.drew.below_step N q1 q2 rfl q3); have hS1 : w'.cell? ⟨b, off + k * 2, none⟩ = some (.int .i64 (I k)) ∧ w'.cell? ⟨b, off + k * 2 + 1, none⟩ = some (.bool true) := ⟨(J1.out.below.cell (p := ⟨b, off + k * 2, none⟩) hb).trans (HC.out k hlt).1, (J1.out.below.cell (p := ⟨b, off + k * 2 + 1, none⟩) hb).trans (hC ▸ (HC.out k hlt).2)⟩; clear q1 q2 q3))
        obtain ⟨d0, d1⟩ := hS1
        have hv1 := J1.out.row
        rw [show (es ++ [(N, I k)]).length = es.length + 1 from by simp] at hv1
        obtain ⟨ao1, vcap1, hv1, _⟩ := owns_shape hv1
        subst hv1
        have t1 : ((es.length : Int) + 1 != (es.length : Int) + 1) = false := by simp
        go_wp2_with (first
          | (go_at_call 6; refine (len_any w.heap.size (es.length + 1) vcap1 ao1 _ (cell_of_one J1.out.queue)).mono ?_; rintro e w'' ⟨rfl, hw'⟩; rw [hw']; clear hw' w'')
          | (at_builtin; refine wpList_append_own_none rfl (.tmp 64) (.tmp 65) 26 rfl w.heap.size 3 i0 1 Try.underlying26 hi _ _ _ rfl J1.out.seen rfl ?_))
        go_roundw
        case rel => exact ⟨k + 1, by omega, by go_num, _, _, _, J1.out⟩
        case measure => simp [intOf]; omega
    · have hkn : k = n := by omega
      subst hkn
      have hkl := J.out.len
      go_wp2_with (first
        | (go_at_call 8; refine (waiting_any w.heap.size w.heap.size v es _ J.out.queue J.out.row (by omega)).mono ?_; rintro e w2 ⟨ov, rfl, q0, q1, q2⟩; obtain ⟨g, gcap, hov⟩ := one_made q0 q1; subst hov; have Q0 := hide q0; have Q2 := hide q2; have HS := hide (owns_of_block J.out.seen (w' := w2) (fun g hg => q2.block g (J.out.seen.lt g hg).2 (fun h => h))); clear q0 q1 q2)
        | (at_builtin; refine wpList_append_own _ rfl (.tmp 67) (.tmp 69) 26 rfl w.heap.size 3 i0 (.int .i64 0) 1 8 Try.underlying26 hi hz0 hz1 hz2 rfl (by decide) _ _ _ rfl HS.out ⟨g, 0, none⟩ es.length gcap ((es.map (·.2)).map (Value.int .i64)) rfl (by simp) ?f1 ?f2 ?f3 ?f4 ?f5 ?_))
      case f1 => exact Q0.out.cells (g := g) rfl
      case f2 =>
        intro u hu
        simp at hu
        obtain ⟨_, x, _, rfl⟩ := hu
        rfl
      case f3 => unfold maxLen; omega
      case f4 => omega
      case f5 => exact Nat.le_trans (Nat.le_of_lt J.out.size) Q2.out.size
      intro sv2 w3 hown3 hgrow3 hiff
      rw [← List.map_map, ← List.map_append, J.out.sum] at hown3
      obtain ⟨g3, cap3, hsv3⟩ := one_made hown3 (fun e => J.out.made (hiff.1 e).1)
      subst hsv3
      have hbel : Below w.heap.size w w3 := (J.out.below.trans (Q2.out.below (Nat.le_of_lt J.out.size) (fun _ _ h => h))).grown hgrow3 (Nat.le_trans (Nat.le_of_lt J.out.size) Q2.out.size) (fun j hj => (HS.out.lt j hj).1)
      have HB := hide hbel
      have H3 := hide hown3
      clear hbel hown3 hgrow3 hiff
      clear hkl hel hLl J Q0 Q2 HS
      go_wp2
      go_loopw [9] (fun i wz => ∃ j : Nat, j ≤ k ∧ i = .int .i64 j ∧ ∃ q, wz = w3.drewN q) (fun i _ => k - (intOf i).toNat)
      case atStart => exact ⟨0, Nat.zero_le _, rfl, 0, rfl⟩
      case round =>
        obtain ⟨j, hj, rfl, q, rfl⟩ := hrel
        by_cases hjl : j < k
        · obtain ⟨b, off, rfl, hb, hc⟩ := hp.out (by omega)
          have c0 := (hc j hjl).1
          rw [← HB.out.cell (p := ⟨b, off + j * 2, none⟩) hb] at c0
          have c1 : w3.cell? ⟨g3, j, none⟩ = some (.int .i64 (I j)) := by
            rw [H3.out.cellAt j (by omega)]
            simp [hjl]
          clear hc
          go_wp2
          go_quiet (fail)
          go_wp2
          exact ⟨⟨j + 1, by omega, by go_num, _, rfl⟩, by simp [intOf]; omega⟩
        · go_wp2
          go_ret
          exact ⟨rfl, ⟨HB.out.os, HB.out.tape, HB.out.output, HB.out.size, HB.out.block⟩⟩

set_option maxHeartbeats 400000 in
theorem walk (a : Option Addr) (n cap : Nat) (I : Nat → Int) (C : Nat → Bool) (w : World) (hn : n ≤ maxLen) (hp : IsPairs w a n I C) :
    Calls Try.prog 3 #[.slice a n cap] w fun e w' => e = .returned (.bool true) ∧ Below w.heap.size w w' := by
  by_cases h1 : n ≤ 65536
  · exact walk_main a n cap I C w h1 hp
  · clear hp
    by_cases h2 : n ≤ 1048576
    · have hd : decide (n ≤ 1048576) = true := by simpa using h2
      have hz : (65536 : Int) < n := by omega
      have HN := hide hn
      clear h1 hn
      go_enter Try.func3, Try.ntmps3
      go_wp2_with (go_at_call 4; refine (bytes_any _ _ _ _ HN.out).mono ?_; rintro e w' ⟨rfl, hw'⟩; rw [hw']; clear hw' w')
      go_ret
      exact ⟨rfl, Below.refl _ _⟩
    · have hd : decide (n ≤ 1048576) = false := by simpa using h2
      have HN := hide hn
      clear h1 hn h2
      go_enter Try.func3, Try.ntmps3
      go_wp2_with (go_at_call 4; refine (bytes_any _ _ _ _ HN.out).mono ?_; rintro e w' ⟨rfl, hw'⟩; rw [hw']; clear hw' w')
      go_ret
      exact ⟨rfl, Below.refl _ _⟩
end Go.Proofs.Qxb6613494a.nq
