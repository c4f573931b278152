/-
  THE WALKS of the small functions: zzLen (18), zzHigh (20), slot (53), zzSlotOf (35).
-/
import Derived.Test.Qxb6603644aRows
import Derived.WalkKit
import Derived.WalkSpells
import Derived.WalkLawsBesides
import Derived.BigQuiet
import Derived.Deep.QuietTactic
import Derived.Deep.Light
namespace Go.Proofs.Qxb6603644a
open Go.RowKit

theorem zzLen_any (s : ByteArray) (w : World) (hs : s.size ≤ maxLen) : Calls Try.prog 18 #[.string s] w fun x w' => x = .returned (.int .i64 (if 2097152 < s.size then 2097152 else s.size : Nat)) ∧ w' = w := by
  unfold maxLen at hs
  by_cases h : 2097152 < s.size
  · go_enter Try.func18, Try.ntmps18
    go_wp2
    go_ret
    exact ⟨rfl, rfl⟩
  · go_enter Try.func18, Try.ntmps18
    go_wp2
    go_ret
    exact ⟨rfl, rfl⟩

theorem slot_any (h : Int) (s : Nat) (w : World) (h0 : 0 ≤ h) (_h1 : h < 18446744073709551616) (hs : 4 ≤ s) (hs2 : s ≤ 64) : Calls Try.prog 53 #[.int .u64 h, .int .i64 s] w fun x w' => x = .returned (.int .i64 (h / 2 ^ (s - 4) % 16)) ∧ w' = w := by
  have hq : 0 ≤ h / 2 ^ (s - 4) := Int.ediv_nonneg h0 (Int.le_of_lt (Int.pow_pos (by decide)))
  go_enter Try.func53, Try.ntmps53
  go_wp2
  go_ret
  exact ⟨rfl, rfl⟩

theorem zzHigh_any (h : Int) (s : Nat) (w : World) (h0 : 0 ≤ h) (h1 : h < 18446744073709551616) (hs2 : s ≤ 64) : Calls Try.prog 20 #[.int .u64 h, .int .i64 s] w fun x w' => x = .returned (.int .u64 (h / 2 ^ s)) ∧ w' = w := by
  by_cases h6 : 64 ≤ s
  · have hz : h / 2 ^ s = 0 := by
      obtain rfl : s = 64 := by omega
      exact Int.ediv_eq_zero_of_lt h0 (by simpa using h1)
    rw [hz]
    go_enter Try.func20, Try.ntmps20
    go_wp2
    go_ret
    exact ⟨rfl, rfl⟩
  · go_enter Try.func20, Try.ntmps20
    go_wp2
    go_ret
    exact ⟨rfl, rfl⟩
end Go.Proofs.Qxb6603644a
