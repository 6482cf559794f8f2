/- The contracts of zzLookup and zzJoin. -/
import Derived.Test.Qxb6613449aExpEnv
import Derived.Test.Qxb6613449aExpLaw
import Derived.Lib.BufferRead
namespace Go.Proofs.Qxb6613449a.ex
open Go.ChangeShapes Go.WideShapes Go.ChangeAt Go.RowKit

set_option maxHeartbeats 1000000 in
theorem lookup_any (ka va : Option Addr) (n kc vc : Nat) (K V : Nat → ByteArray) (s : ByteArray) (w : World) (hn : n ≤ 1000000) (hk : Hid (IsStrs w ka n K)) (hv : Hid (IsStrs w va n V)) :
    Calls Try.prog 14 #[.slice ka n kc, .slice va n vc, .string s] w fun e w' => e = .returned (.string (lastOf K V n s)) ∧ w' = w := by
  go_enter Try.func14, Try.ntmps14
  go_wp2
  go_loop [7] (fun i => ∃ k : Nat, k ≤ n ∧ i = .int .i64 ((k : Int) - 1) ∧ lastOf K V n s = lastOf K V k s) (fun i => (intOf i + 1).toNat)
  case atStart => exact ⟨n, Nat.le_refl _, by go_num, rfl⟩
  case round =>
    obtain ⟨k, hkn, rfl, hl⟩ := hrel
    have HL := hide hl
    clear hl
    cases k with
    | zero =>
      go_wp2
      go_ret
      exact ⟨by rw [HL.out]; rfl, rfl⟩
    | succ k =>
      obtain ⟨b, off, rfl, hb, hc⟩ := hk.out (by omega)
      obtain ⟨b2, off2, rfl, hb2, hc2⟩ := hv.out (by omega)
      have c0 := hc k (by omega)
      have c1 := hc2 k (by omega)
      clear hc hc2
      have hi : ((k + 1 : Nat) : Int) - 1 = (k : Int) := by omega
      rw [hi]
      cases he : ((K k).toList == s.toList)
      · have HL2 : Hid (lastOf K V n s = lastOf K V k s) := by
          show _ = _
          rw [HL.out]
          simp only [lastOf, he]
          rfl
        go_wp2
        exact ⟨⟨k, by omega, by go_num, HL2.out⟩, by simp [intOf]⟩
      · have HL2 : Hid (lastOf K V n s = V k) := by
          show _ = _
          rw [HL.out]
          simp only [lastOf, he, if_true]
        go_wp2
        go_ret
        exact ⟨by rw [HL2.out]; rfl, rfl⟩

theorem outP_le (P : Nat → ByteArray) {j k : Nat} (h : j ≤ k) : (outP P j).length ≤ (outP P k).length := by
  induction k with
  | zero =>
    have : j = 0 := by omega
    subst this; exact Nat.le_refl _
  | succ k ih =>
    rcases Nat.lt_or_ge j (k + 1) with h1 | h1
    · have := ih (by omega)
      simp only [outP, List.length_append]
      omega
    · have : j = k + 1 := by omega
      subst this; exact Nat.le_refl _

theorem strCells_byteCells (s : ByteArray) : Lib.strCells s = Lib.byteCells s.data.toList := rfl

/-- 'string(buf)', buf a row of our own -/
theorem run_string_own {w : World} {B : Nat} {v : Value} {l : List UInt8} (h : w.ownsRow B 5 1 v l.length (Lib.byteCells l)) : (convert 41 9 v).run Try.prog w = .ok (.string ⟨l.toArray⟩) w := by
  rcases h.2 with ⟨rfl, hz⟩ | ⟨g, cap, cur, rfl, hb, hg, hnc, hcm, hcs, htake⟩
  · have : l = [] := List.length_eq_zero_iff.1 hz
    subst this
    exact Lib.run_convert_nil_bytes w 41 9 5 0 Try.underlying41 Try.underlying5 Try.underlying9
  · exact run_convert_bytes_back w 41 9 5 _ cap l Try.underlying41 Try.underlying5 Try.underlying9 (Lib.bytes_of_row hg (by simpa using htake))

set_option maxHeartbeats 1000000 in
theorem join_any (xa : Option Addr) (n xc : Nat) (S : Nat → ByteArray) (w : World) (hn : n ≤ 1000000) (hx : Hid (IsStrs w xa n S)) (hlen : Hid ((outP S n).length ≤ 100000000)) :
    Calls Try.prog 15 #[.slice xa n xc] w fun e w' => e = .returned (.string ⟨(outP S n).toArray⟩) ∧ Below w.heap.size w w' := by
  obtain ⟨i0, hi, hz0, hz1, hz2⟩ := info_parts infoByte
  go_enter Try.func15, Try.ntmps15
  go_wp2
  go_loopw [3, 4] (fun v i wr => ∃ k : Nat, k ≤ n ∧ i = .int .i64 k ∧ wr.ownsRow w.heap.size 5 1 v (outP S k).length (Lib.byteCells (outP S k)) ∧ Below w.heap.size w wr) (fun _ i _ => n - (intOf i).toNat)
  case atStart => exact ⟨0, Nat.zero_le _, rfl, World.ownsRow_nil _ _ _ _, Below.refl _ _⟩
  case round =>
    obtain ⟨k, hkn, rfl, hown, hbel⟩ := hrel
    have HO := hide hown
    have HB := hide hbel
    clear hown hbel
    by_cases hlt : k < n
    · obtain ⟨b, off, rfl, hb, hc⟩ := hx.out (by omega)
      have c0 := hc k hlt
      rw [← HB.out.cell (p := ⟨b, off + k, none⟩) hb] at c0
      clear hc
      have hl1 := outP_le S (j := k + 1) (k := n) (by omega)
      have hl2 := hlen.out
      have hlk : (outP S k).length + (S k).size ≤ 100000000 := by
        have : (outP S (k + 1)).length = (outP S k).length + (S k).size := by simp [outP]
        omega
      have HE : Hid (outP S (k + 1) = outP S k ++ (S k).data.toList) := rfl
      clear hl1 hl2
      go_wp2_with (at_builtin; refine Lib.wpList_append_own_string _ rfl _ _ 41 9 rfl w.heap.size 5 i0 Try.underlying41 Try.underlying9 hi hz0 hz1 hz2 _ _ _ rfl HO.out (S k) rfl ?c3 ?c4 ?c5 ?_)
      case c3 => unfold maxLen; omega
      case c4 => omega
      case c5 => exact HB.out.size
      intro v' w2 hown' hgrow _
      have H1 : Hid (w2.ownsRow w.heap.size 5 1 v' (outP S (k + 1)).length (Lib.byteCells (outP S (k + 1)))) := by
        show World.ownsRow _ _ _ _ _ _ _
        rw [HE.out, Lib.byteCells_append, List.length_append]
        simpa [strCells_byteCells] using hown'
      have H2 := hide (HB.out.grown hgrow HB.out.size (fun j hj => (HO.out.lt j hj).1))
      clear hown' hgrow
      go_wp2
      exact ⟨⟨k + 1, by omega, by go_num, H1.out, H2.out⟩, by simp [intOf]; omega⟩
    · have hkn2 : k = n := by omega
      subst hkn2
      have hr := run_string_own HO.out
      go_wp2
      go_ret
      exact ⟨rfl, HB.out⟩
end Go.Proofs.Qxb6613449a.ex
