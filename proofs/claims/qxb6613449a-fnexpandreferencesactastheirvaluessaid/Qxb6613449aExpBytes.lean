/- The contracts of the two zzBytes_ functions: each only reads. -/
import Derived.Test.Qxb6613449aExpBase
namespace Go.Proofs.Qxb6613449a.ex
open Go.ChangeShapes Go.WideShapes Go.ChangeAt Go.RowKit

/-- it answers some bool, and true only where both lengths are small; nothing turns -/
def BoolPost (w : World) (n0 n1 : Nat) (e : Ending) (w' : World) : Prop := w' = w ∧ ∃ b, e = .returned (.bool b) ∧ (b = true → n0 ≤ 1048576 ∧ n1 ≤ 1048576)

theorem boolPost {w : World} {n0 n1 : Nat} (b : Bool) (h : b = true → n0 ≤ 1048576 ∧ n1 ≤ 1048576) : BoolPost w n0 n1 (.returned (.bool b)) w := ⟨rfl, b, rfl, h⟩

set_option maxHeartbeats 2000000 in
theorem bytes7_any (a0 a1 a2 a3 : Option Addr) (n0 n1 n2 n3 c0' c1' c2' c3' : Nat) (S0 S1 S2 S3 : Nat → ByteArray) (q : Int) (s5 : ByteArray) (w : World) (hs0 : Hid (IsStrs w a0 n0 S0)) (hs1 : Hid (IsStrs w a1 n1 S1)) (hs2 : Hid (IsStrs w a2 n2 S2)) (hs3 : Hid (IsStrs w a3 n3 S3)) :
    Calls Try.prog 7 #[.slice a0 n0 c0', .slice a1 n1 c1', .slice a2 n2 c2', .slice a3 n3 c3', .int .i64 q, .string s5] w (BoolPost w n0 n1) := by
  by_cases g0 : n0 ≤ 1048576
  rotate_left
  · go_enter Try.func7, Try.ntmps7
    go_wp2
    go_ret
    exact boolPost false (fun h => by cases h)
  go_enter Try.func7, Try.ntmps7
  go_wp2
  go_loop [13, 14] (fun t i => ∃ (k : Nat) (z : Int), k ≤ n0 ∧ i = .int .i64 k ∧ 0 ≤ z ∧ z ≤ 1048576 ∧ t = .int .i64 z) (fun _ i => n0 - (intOf i).toNat)
  case atStart => exact ⟨0, _, Nat.zero_le _, rfl, by omega, by omega, rfl⟩
  case round =>
    obtain ⟨k0, z0, hk0, rfl, hz0, hy0, rfl⟩ := hrel
    by_cases hlt0 : k0 < n0
    · obtain ⟨b, off, rfl, hb, hc⟩ := hs0.out (by omega)
      have c0 := hc k0 hlt0
      generalize S0 k0 = s at c0
      clear hc
      go_wp2
      · go_ret
        exact boolPost false (fun h => by cases h)
      · go_ret
        exact boolPost false (fun h => by cases h)
      · exact ⟨⟨k0 + 1, _, by omega, by go_num, by omega, by assumption, rfl⟩, by simp [intOf]; omega⟩
    by_cases g1 : n1 ≤ 1048576
    rotate_left
    · go_wp2
      go_ret
      exact boolPost false (fun h => by cases h)
    go_wp2
    · go_ret
      exact boolPost false (fun h => by cases h)
    go_loop [13, 15] (fun t i => ∃ (k : Nat) (z : Int), k ≤ n1 ∧ i = .int .i64 k ∧ 0 ≤ z ∧ z ≤ 1048576 ∧ t = .int .i64 z) (fun _ i => n1 - (intOf i).toNat)
    case atStart => exact ⟨0, _, Nat.zero_le _, rfl, by omega, by omega, rfl⟩
    case round =>
      obtain ⟨k1, z1, hk1, rfl, hz1, hy1, rfl⟩ := hrel
      by_cases hlt1 : k1 < n1
      · obtain ⟨b, off, rfl, hb, hc⟩ := hs1.out (by omega)
        have c0 := hc k1 hlt1
        generalize S1 k1 = s at c0
        clear hc
        go_wp2
        · go_ret
          exact boolPost false (fun h => by cases h)
        · go_ret
          exact boolPost false (fun h => by cases h)
        · exact ⟨⟨k1 + 1, _, by omega, by go_num, by omega, by assumption, rfl⟩, by simp [intOf]; omega⟩
      by_cases g2 : n2 ≤ 1048576
      rotate_left
      · go_wp2
        go_ret
        exact boolPost false (fun h => by cases h)
      go_wp2
      · go_ret
        exact boolPost false (fun h => by cases h)
      go_loop [13, 16] (fun t i => ∃ (k : Nat) (z : Int), k ≤ n2 ∧ i = .int .i64 k ∧ 0 ≤ z ∧ z ≤ 1048576 ∧ t = .int .i64 z) (fun _ i => n2 - (intOf i).toNat)
      case atStart => exact ⟨0, _, Nat.zero_le _, rfl, by omega, by omega, rfl⟩
      case round =>
        obtain ⟨k2, z2, hk2, rfl, hz2, hy2, rfl⟩ := hrel
        by_cases hlt2 : k2 < n2
        · obtain ⟨b, off, rfl, hb, hc⟩ := hs2.out (by omega)
          have c0 := hc k2 hlt2
          generalize S2 k2 = s at c0
          clear hc
          go_wp2
          · go_ret
            exact boolPost false (fun h => by cases h)
          · go_ret
            exact boolPost false (fun h => by cases h)
          · exact ⟨⟨k2 + 1, _, by omega, by go_num, by omega, by assumption, rfl⟩, by simp [intOf]; omega⟩
        by_cases g3 : n3 ≤ 1048576
        rotate_left
        · go_wp2
          go_ret
          exact boolPost false (fun h => by cases h)
        go_wp2
        · go_ret
          exact boolPost false (fun h => by cases h)
        go_loop [13, 17] (fun t i => ∃ (k : Nat) (z : Int), k ≤ n3 ∧ i = .int .i64 k ∧ 0 ≤ z ∧ z ≤ 1048576 ∧ t = .int .i64 z) (fun _ i => n3 - (intOf i).toNat)
        case atStart => exact ⟨0, _, Nat.zero_le _, rfl, by omega, by omega, rfl⟩
        case round =>
          obtain ⟨k3, z3, hk3, rfl, hz3, hy3, rfl⟩ := hrel
          by_cases hlt3 : k3 < n3
          · obtain ⟨b, off, rfl, hb, hc⟩ := hs3.out (by omega)
            have c0 := hc k3 hlt3
            generalize S3 k3 = s at c0
            clear hc
            go_wp2
            · go_ret
              exact boolPost false (fun h => by cases h)
            · go_ret
              exact boolPost false (fun h => by cases h)
            · exact ⟨⟨k3 + 1, _, by omega, by go_num, by omega, by assumption, rfl⟩, by simp [intOf]; omega⟩
          by_cases g4 : s5.size ≤ 1048576
          rotate_left
          · go_wp2
            go_ret
            exact boolPost false (fun h => by cases h)
          go_wp2
          · go_ret
            exact boolPost false (fun h => by cases h)
          · go_ret
            exact boolPost true (fun _ => ⟨g0, g1⟩)

set_option maxHeartbeats 2000000 in
theorem bytes13_any (a0 a1 a2 a3 : Option Addr) (n0 n1 n2 n3 c0' c1' c2' c3' : Nat) (S0 S1 S2 S3 : Nat → ByteArray) (w : World) (hs0 : Hid (IsStrs w a0 n0 S0)) (hs1 : Hid (IsStrs w a1 n1 S1)) (hs2 : Hid (IsStrs w a2 n2 S2)) (hs3 : Hid (IsStrs w a3 n3 S3)) :
    Calls Try.prog 13 #[.slice a0 n0 c0', .slice a1 n1 c1', .slice a2 n2 c2', .slice a3 n3 c3'] w (BoolPost w n0 n1) := by
  by_cases g0 : n0 ≤ 1048576
  rotate_left
  · go_enter Try.func13, Try.ntmps13
    go_wp2
    go_ret
    exact boolPost false (fun h => by cases h)
  go_enter Try.func13, Try.ntmps13
  go_wp2
  go_loop [9, 10] (fun t i => ∃ (k : Nat) (z : Int), k ≤ n0 ∧ i = .int .i64 k ∧ 0 ≤ z ∧ z ≤ 1048576 ∧ t = .int .i64 z) (fun _ i => n0 - (intOf i).toNat)
  case atStart => exact ⟨0, _, Nat.zero_le _, rfl, by omega, by omega, rfl⟩
  case round =>
    obtain ⟨k0, z0, hk0, rfl, hz0, hy0, rfl⟩ := hrel
    by_cases hlt0 : k0 < n0
    · obtain ⟨b, off, rfl, hb, hc⟩ := hs0.out (by omega)
      have c0 := hc k0 hlt0
      generalize S0 k0 = s at c0
      clear hc
      go_wp2
      · go_ret
        exact boolPost false (fun h => by cases h)
      · go_ret
        exact boolPost false (fun h => by cases h)
      · exact ⟨⟨k0 + 1, _, by omega, by go_num, by omega, by assumption, rfl⟩, by simp [intOf]; omega⟩
    by_cases g1 : n1 ≤ 1048576
    rotate_left
    · go_wp2
      go_ret
      exact boolPost false (fun h => by cases h)
    go_wp2
    · go_ret
      exact boolPost false (fun h => by cases h)
    go_loop [9, 11] (fun t i => ∃ (k : Nat) (z : Int), k ≤ n1 ∧ i = .int .i64 k ∧ 0 ≤ z ∧ z ≤ 1048576 ∧ t = .int .i64 z) (fun _ i => n1 - (intOf i).toNat)
    case atStart => exact ⟨0, _, Nat.zero_le _, rfl, by omega, by omega, rfl⟩
    case round =>
      obtain ⟨k1, z1, hk1, rfl, hz1, hy1, rfl⟩ := hrel
      by_cases hlt1 : k1 < n1
      · obtain ⟨b, off, rfl, hb, hc⟩ := hs1.out (by omega)
        have c0 := hc k1 hlt1
        generalize S1 k1 = s at c0
        clear hc
        go_wp2
        · go_ret
          exact boolPost false (fun h => by cases h)
        · go_ret
          exact boolPost false (fun h => by cases h)
        · exact ⟨⟨k1 + 1, _, by omega, by go_num, by omega, by assumption, rfl⟩, by simp [intOf]; omega⟩
      by_cases g2 : n2 ≤ 1048576
      rotate_left
      · go_wp2
        go_ret
        exact boolPost false (fun h => by cases h)
      go_wp2
      · go_ret
        exact boolPost false (fun h => by cases h)
      go_loop [9, 12] (fun t i => ∃ (k : Nat) (z : Int), k ≤ n2 ∧ i = .int .i64 k ∧ 0 ≤ z ∧ z ≤ 1048576 ∧ t = .int .i64 z) (fun _ i => n2 - (intOf i).toNat)
      case atStart => exact ⟨0, _, Nat.zero_le _, rfl, by omega, by omega, rfl⟩
      case round =>
        obtain ⟨k2, z2, hk2, rfl, hz2, hy2, rfl⟩ := hrel
        by_cases hlt2 : k2 < n2
        · obtain ⟨b, off, rfl, hb, hc⟩ := hs2.out (by omega)
          have c0 := hc k2 hlt2
          generalize S2 k2 = s at c0
          clear hc
          go_wp2
          · go_ret
            exact boolPost false (fun h => by cases h)
          · go_ret
            exact boolPost false (fun h => by cases h)
          · exact ⟨⟨k2 + 1, _, by omega, by go_num, by omega, by assumption, rfl⟩, by simp [intOf]; omega⟩
        by_cases g3 : n3 ≤ 1048576
        rotate_left
        · go_wp2
          go_ret
          exact boolPost false (fun h => by cases h)
        go_wp2
        · go_ret
          exact boolPost false (fun h => by cases h)
        go_loop [9, 13] (fun t i => ∃ (k : Nat) (z : Int), k ≤ n3 ∧ i = .int .i64 k ∧ 0 ≤ z ∧ z ≤ 1048576 ∧ t = .int .i64 z) (fun _ i => n3 - (intOf i).toNat)
        case atStart => exact ⟨0, _, Nat.zero_le _, rfl, by omega, by omega, rfl⟩
        case round =>
          obtain ⟨k3, z3, hk3, rfl, hz3, hy3, rfl⟩ := hrel
          by_cases hlt3 : k3 < n3
          · obtain ⟨b, off, rfl, hb, hc⟩ := hs3.out (by omega)
            have c0 := hc k3 hlt3
            generalize S3 k3 = s at c0
            clear hc
            go_wp2
            · go_ret
              exact boolPost false (fun h => by cases h)
            · go_ret
              exact boolPost false (fun h => by cases h)
            · exact ⟨⟨k3 + 1, _, by omega, by go_num, by omega, by assumption, rfl⟩, by simp [intOf]; omega⟩
          go_wp2
          go_ret
          exact boolPost true (fun _ => ⟨g0, g1⟩)
end Go.Proofs.Qxb6613449a.ex
