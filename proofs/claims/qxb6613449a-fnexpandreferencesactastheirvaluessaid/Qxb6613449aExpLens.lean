/- The contract of zzAddLens. -/
import Derived.Test.Qxb6613449aExpBase
namespace Go.Proofs.Qxb6613449a.ex
open Go.ChangeShapes Go.WideShapes Go.ChangeAt Go.RowKit

set_option maxHeartbeats 1000000 in
theorem addLens_any (t0 : Int) (a : Option Addr) (n cap : Nat) (S : Nat → ByteArray) (w : World) (h0 : 0 ≤ t0) (h1 : t0 ≤ 1048576) (hn : n ≤ maxLen) (hs : Hid (IsStrs w a n S)) (hz : Hid (∀ j, j < n → (S j).size ≤ maxLen)) :
    Calls Try.prog 8 #[.int .i64 t0, .slice a n cap] w fun e w' => w' = w ∧ ∃ r : Int, e = .returned (.int .i64 r) ∧ (r ≤ 1048576 → r = t0 + tot S n) := by
  unfold maxLen at hn
  go_enter Try.func8, Try.ntmps8
  go_wp2
  go_loop [0, 5] (fun t i => ∃ k : Nat, k ≤ n ∧ i = .int .i64 k ∧ t0 + tot S k ≤ 1048576 ∧ t = .int .i64 (t0 + tot S k)) (fun _ i => n - (intOf i).toNat)
  case atStart => exact ⟨0, Nat.zero_le _, rfl, by simpa [tot] using h1, by simp [tot]⟩
  case round =>
    obtain ⟨k, hk, rfl, ht, rfl⟩ := hrel
    by_cases hlt : k < n
    · obtain ⟨b, off, rfl, hb, hc⟩ := hs.out (by omega)
      have c0 := hc k hlt
      have hzk := hz.out k hlt
      unfold maxLen at hzk
      obtain ⟨s, hse⟩ : ∃ s, s = S k := ⟨_, rfl⟩
      rw [← hse] at c0 hzk
      have HST : Hid (tot S (k + 1) = tot S k + (16 + s.size)) := by rw [hse]; rfl
      clear hc hse
      go_wp2
      · go_ret
        exact ⟨rfl, _, rfl, fun h => absurd h (by omega)⟩
      · go_ret
        exact ⟨rfl, _, rfl, fun h => absurd h (by omega)⟩
      · have e := HST.out
        exact ⟨⟨k + 1, by omega, by go_num, by rw [e]; omega, by rw [e]; go_num⟩, by simp [intOf]; omega⟩
    · have hkn : k = n := by omega
      subst hkn
      go_wp2
      go_ret
      exact ⟨rfl, _, rfl, fun _ => rfl⟩
end Go.Proofs.Qxb6613449a.ex
