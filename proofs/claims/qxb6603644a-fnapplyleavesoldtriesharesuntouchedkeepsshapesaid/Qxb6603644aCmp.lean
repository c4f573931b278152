/-
  THE WALKS of cmp.Compare at uint64 (49) and int (51).
-/
import Derived.Test.Qxb6603644aBase
namespace Go.Proofs.Qxb6603644a
open Go.RowKit

def cmp3 (x y : Int) : Int := if x < y then -1 else if y < x then 1 else 0

theorem cmp49 (x y : Int) (w : World) : Calls Try.prog 49 #[.int .u64 x, .int .u64 y] w fun e w' => e = .returned (.int .i64 (cmp3 x y)) ∧ w' = w := by
  by_cases h1 : x < y
  · have hc : cmp3 x y = -1 := by simp [cmp3, h1]
    rw [hc]
    go_enter Try.func49, Try.ntmps49
    go_wp2
    all_goals
      go_ret
      exact ⟨rfl, rfl⟩
  · by_cases h2 : y < x
    · have hc : cmp3 x y = 1 := by simp [cmp3, h1, h2]
      rw [hc]
      go_enter Try.func49, Try.ntmps49
      go_wp2
      all_goals
        go_ret
        exact ⟨rfl, rfl⟩
    · have hc : cmp3 x y = 0 := by simp [cmp3, h1, h2]
      rw [hc]
      go_enter Try.func49, Try.ntmps49
      go_wp2
      all_goals
        go_ret
        exact ⟨rfl, rfl⟩
theorem cmp51 (x y : Int) (w : World) : Calls Try.prog 51 #[.int .i64 x, .int .i64 y] w fun e w' => e = .returned (.int .i64 (cmp3 x y)) ∧ w' = w := by
  by_cases h1 : x < y
  · have hc : cmp3 x y = -1 := by simp [cmp3, h1]
    rw [hc]
    go_enter Try.func51, Try.ntmps51
    go_wp2
    all_goals
      go_ret
      exact ⟨rfl, rfl⟩
  · by_cases h2 : y < x
    · have hc : cmp3 x y = 1 := by simp [cmp3, h1, h2]
      rw [hc]
      go_enter Try.func51, Try.ntmps51
      go_wp2
      all_goals
        go_ret
        exact ⟨rfl, rfl⟩
    · have hc : cmp3 x y = 0 := by simp [cmp3, h1, h2]
      rw [hc]
      go_enter Try.func51, Try.ntmps51
      go_wp2
      all_goals
        go_ret
        exact ⟨rfl, rfl⟩
end Go.Proofs.Qxb6603644a
