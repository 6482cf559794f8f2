/- The contracts of zzAddFits, carries and ZZcarries (shared by both laws of this seat). -/
import Derived.Test.Qxb6613492aRows
import Derived.WalkKit
import Derived.ProofKit
namespace Go.Proofs.Qxb6613492a.carr
open Go.ChangeShapes Go.WideShapes Go.ChangeAt Go.RowKit

/-- what 'carries' computes -/
def carB (f t s k now retry : Int) : Bool := decide (f ≤ k) && (decide (k ≤ t) && decide (wrap64 (now - s) < retry))

theorem ret_bool {a b : Bool} (h : a = b) : Ending.returned (.bool a) = .returned (.bool b) := by rw [h]

theorem grown_trans {a b c : World} (h : Grown a b) (g : Grown b c) : Grown a c :=
  ⟨World.keptBut_trans h.1 g.1, fun x => (g.2.1 x).trans (h.2.1 x), Nat.le_trans h.2.2 g.2.2⟩

set_option maxHeartbeats 1000000 in
theorem carries_any (f t s l k now retry : Int) (w : World) :
    Calls Try.prog 7 #[.agg #[.int .i64 f, .int .i64 t, .int .i64 s, .int .i64 l], .int .i64 k, .int .i64 now, .int .i64 retry] w
      fun e w' => e = .returned (.bool (carB f t s k now retry)) ∧ Grown w w' := by
  by_cases h1 : f ≤ k
  · by_cases h2 : k ≤ t
    · go_enter Try.func7, Try.ntmps7
      go_wp2
      go_ret
      exact ⟨ret_bool (by simp [carB, h1, h2]), (Grown.refl _).alloc _ _⟩
    · go_enter Try.func7, Try.ntmps7
      go_wp2
      go_ret
      exact ⟨ret_bool (by simp [carB]; omega), (Grown.refl _).alloc _ _⟩
  · go_enter Try.func7, Try.ntmps7
    go_wp2
    go_ret
    exact ⟨ret_bool (by simp [carB]; omega), (Grown.refl _).alloc _ _⟩

set_option maxHeartbeats 1000000 in
theorem zz_any (f t s l k now retry : Int) (w : World) :
    Calls Try.prog 5 #[.int .i64 f, .int .i64 t, .int .i64 s, .int .i64 l, .int .i64 k, .int .i64 now, .int .i64 retry] w
      fun e w' => e = .returned (.bool (carB f t s k now retry)) ∧ Grown w w' := by
  go_enter Try.func5, Try.ntmps5
  go_wp2_with (go_at_call 7; refine (carries_any _ _ _ _ _ _ _ _).mono ?_; rintro e w' ⟨rfl, hg⟩)
  go_ret
  exact ⟨rfl, hg⟩
end Go.Proofs.Qxb6613492a.carr
