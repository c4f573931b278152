/-
  THE WALKS of ZZcount (33), zzSlotOf (35), zzSetSlot (34).
-/
import Derived.Test.Qxb6603644aRef
import Derived.Laws.Bits64b
namespace Go.Proofs.Qxb6603644a
open Go.RowKit Go.Shelf

theorem cnt_any (g c : Nat) (w : World) (h : w.cell? ⟨g, 1, none⟩ = some (.int .i64 (c : Nat))) : Calls Try.prog 33 #[.pointer (some ⟨g, 0, none⟩)] w fun x w' => x = .returned (.int .i64 (c : Nat)) ∧ w' = w := by
  go_enter Try.func33, Try.ntmps33
  go_wp2
  go_ret
  exact ⟨rfl, rfl⟩
theorem slotOf_any (h : Int) (s : Nat) (w : World) (h0 : 0 ≤ h) (_h1 : h < 18446744073709551616) (hs : 4 ≤ s) (hs2 : s ≤ 64) : Calls Try.prog 35 #[.int .u64 h, .int .i64 s] w fun x w' => x = .returned (.int .i64 (h / 2 ^ (s - 4) % 16)) ∧ w' = w := by
  have hq : 0 ≤ h / 2 ^ (s - 4) := Int.ediv_nonneg h0 (Int.le_of_lt (Int.pow_pos (by decide)))
  go_enter Try.func35, Try.ntmps35
  go_wp2
  go_ret
  exact ⟨rfl, rfl⟩
theorem wrap_nat {x : Nat} (h : x < 18446744073709551616) : IntKind.u64.wrap (x : Int) = (x : Int) := by
  simp [IntKind.wrap, IntKind.bits, IntKind.signed]
  omega
/-- the hash that has h's bits above s and j in the four bits below -/
def setS (h s j : Nat) : Nat := h / 2 ^ s * 2 ^ s + j * 2 ^ (s - 4)
theorem set_lt {s j : Nat} (hs : 4 ≤ s) (hj : j < 16) : j * 2 ^ (s - 4) < 2 ^ s := by
  have : 2 ^ s = 16 * 2 ^ (s - 4) := by
    rw [show (16 : Nat) = 2 ^ 4 from rfl, ← Nat.pow_add, show 4 + (s - 4) = s by omega]
  rw [this]
  exact Nat.mul_lt_mul_of_pos_right hj (Nat.pow_pos (by decide))
theorem pow_le64 {s : Nat} (hs2 : s ≤ 64) : 2 ^ s ≤ 18446744073709551616 := by
  have := Nat.pow_le_pow_right (n := 2) (by decide) hs2
  simpa using this
theorem set_or {h s j : Nat} (h1 : h < 18446744073709551616) (hs : 4 ≤ s) (hs2 : s ≤ 64) (hj : j < 16) : bits .or .u64 (IntKind.u64.wrap ((h : Int) / 2 ^ s * 2 ^ s)) (IntKind.u64.wrap ((j : Int) * 2 ^ (s - 4))) = ((setS h s j : Nat) : Int) := by
  have e1 : ((h : Int) / 2 ^ s * 2 ^ s) = ((h / 2 ^ s * 2 ^ s : Nat) : Int) := by push_cast; rfl
  have e2 : ((j : Int) * 2 ^ (s - 4)) = ((j * 2 ^ (s - 4) : Nat) : Int) := by push_cast; rfl
  have l1 : h / 2 ^ s * 2 ^ s < 18446744073709551616 := Nat.lt_of_le_of_lt (Nat.div_mul_le_self _ _) h1
  have l2 : j * 2 ^ (s - 4) < 18446744073709551616 := Nat.lt_of_lt_of_le (set_lt hs hj) (pow_le64 hs2)
  rw [e1, e2, wrap_nat l1, wrap_nat l2, bits_or_u64_nat _ _ l1 l2]
  have := Nat.two_pow_add_eq_or_of_lt (set_lt hs hj) (h / 2 ^ s)
  rw [Nat.mul_comm (h / 2 ^ s) (2 ^ s), ← this]
  unfold setS
  rw [Nat.mul_comm (h / 2 ^ s) (2 ^ s)]
theorem setSlot_any (h s j : Nat) (w : World) (h1 : h < 18446744073709551616) (hs : 4 ≤ s) (hs2 : s ≤ 64) (hj : j < 16) : Calls Try.prog 34 #[.int .u64 h, .int .i64 s, .int .i64 j] w fun x w' => x = .returned (.int .u64 ((setS h s j : Nat) : Int)) ∧ w' = w := by
  have hor := set_or h1 hs hs2 hj
  obtain ⟨R, hR⟩ : ∃ R, ((setS h s j : Nat) : Int) = R := ⟨_, rfl⟩
  rw [hR] at hor ⊢
  by_cases h64 : s < 64
  · clear hR
    go_enter Try.func34, Try.ntmps34
    go_wp2
    go_ret
    exact ⟨by rw [← hor]; rfl, rfl⟩
  · obtain rfl : s = 64 := by omega
    have hz : h / 2 ^ 64 = 0 := Nat.div_eq_of_lt (show h < 2 ^ 64 from h1)
    have e : setS h 64 j = j * 1152921504606846976 := by
      unfold setS
      rw [hz, Nat.zero_mul, Nat.zero_add]
    have hb := bits_or_u64_nat 0 (j * 1152921504606846976) (by decide) (by omega)
    rw [e, Int.natCast_mul] at hR
    rw [Nat.zero_or, Int.natCast_mul] at hb
    have hb' : bits .or .u64 0 ((j : Int) * 1152921504606846976) = R := hb.trans hR
    clear hR hz hb e hor
    go_enter Try.func34, Try.ntmps34
    go_wp2
    go_ret
    exact ⟨by rw [← hb']; rfl, rfl⟩
theorem setS_div {h s j : Nat} (hs : 4 ≤ s) : setS h s j / 2 ^ (s - 4) = h / 2 ^ s * 16 + j := by
  unfold setS
  have e : 2 ^ s = 16 * 2 ^ (s - 4) := by rw [show (16 : Nat) = 2 ^ 4 from rfl, ← Nat.pow_add, show 4 + (s - 4) = s by omega]
  have : h / 2 ^ s * 2 ^ s = (h / 2 ^ s * 16) * 2 ^ (s - 4) := by
    conv => lhs; rhs; rw [e]
    rw [← Nat.mul_assoc]
  rw [this, ← Nat.add_mul, Nat.mul_div_cancel _ (Nat.pow_pos (by decide))]
theorem setS_lt {h s j : Nat} (h1 : h < 18446744073709551616) (hs : 4 ≤ s) (hs2 : s ≤ 64) (hj : j < 16) : setS h s j < 18446744073709551616 := by
  unfold setS
  have h2 := set_lt hs hj
  have h3 : 18446744073709551616 = 2 ^ (64 - s) * 2 ^ s := by
    rw [← Nat.pow_add, show 64 - s + s = 64 by omega]
  have h4 : h / 2 ^ s < 2 ^ (64 - s) := by
    rw [Nat.div_lt_iff_lt_mul (Nat.pow_pos (by decide)), ← h3]
    exact h1
  calc h / 2 ^ s * 2 ^ s + j * 2 ^ (s - 4) < h / 2 ^ s * 2 ^ s + 2 ^ s := by omega
    _ = (h / 2 ^ s + 1) * 2 ^ s := by rw [Nat.add_mul, Nat.one_mul]
    _ ≤ 2 ^ (64 - s) * 2 ^ s := Nat.mul_le_mul_right _ h4
    _ = 18446744073709551616 := h3.symm
end Go.Proofs.Qxb6603644a
