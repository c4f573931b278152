/-
  THE WALK of zzApplyBytes (6).
-/
import Derived.Test.Qxb6603644aMake
import Derived.Deep.RegionWith
import Derived.BigQuiet
namespace Go.Proofs.Qxb6603644a
open Go.RowKit Go.Shelf

/-- texts that a memory bears -/
def SzZ (z : Z) : Prop := z.id.size ≤ maxLen ∧ ∀ j, (z.tx j).size ≤ maxLen
/-- texts of at most 2^20 bytes -/
def SmZ (z : Z) : Prop := z.id.size ≤ 1048576 ∧ ∀ j, (z.tx j).size ≤ 1048576
def zl (s : ByteArray) : Nat := if 2097152 < s.size then 2097152 else s.size
theorem zl_le (s : ByteArray) : zl s ≤ 2097152 := by unfold zl; split <;> omega
theorem zl_small {s : ByteArray} (h : zl s ≤ 1048576) : s.size ≤ 1048576 := by unfold zl at h; split at h <;> omega
theorem zzLen_at (s : ByteArray) (L : Nat) (w : World) (hs : s.size ≤ maxLen) (hL : zl s = L) : Calls Try.prog 18 #[.string s] w fun x w' => x = .returned (.int .i64 (L : Nat)) ∧ w' = w := by
  subst hL
  exact zzLen_any s w hs
def sumZ (z : Z) : Nat := 280 + zl z.id + zl (z.tx 0) + zl (z.tx 1) + zl (z.tx 2) + zl (z.tx 3) + zl (z.tx 4) + zl (z.tx 5) + zl (z.tx 6) + zl (z.tx 7) + zl (z.tx 8) + zl (z.tx 9) + zl (z.tx 10) + zl (z.tx 11) + zl (z.tx 12)
theorem sum_small {z : Z} {t : Nat} (h : t + sumZ z ≤ 1048576) : SmZ z := by
  unfold sumZ at h
  refine ⟨zl_small (by omega), fun j => zl_small ?_⟩
  obtain ⟨j, hj⟩ := j
  rcases (by omega : j = 0 ∨ j = 1 ∨ j = 2 ∨ j = 3 ∨ j = 4 ∨ j = 5 ∨ j = 6 ∨ j = 7 ∨ j = 8 ∨ j = 9 ∨ j = 10 ∨ j = 11 ∨ j = 12) with rfl | rfl | rfl | rfl | rfl | rfl | rfl | rfl | rfl | rfl | rfl | rfl | rfl
  · exact (show zl (z.tx 0) ≤ 1048576 by omega)
  · exact (show zl (z.tx 1) ≤ 1048576 by omega)
  · exact (show zl (z.tx 2) ≤ 1048576 by omega)
  · exact (show zl (z.tx 3) ≤ 1048576 by omega)
  · exact (show zl (z.tx 4) ≤ 1048576 by omega)
  · exact (show zl (z.tx 5) ≤ 1048576 by omega)
  · exact (show zl (z.tx 6) ≤ 1048576 by omega)
  · exact (show zl (z.tx 7) ≤ 1048576 by omega)
  · exact (show zl (z.tx 8) ≤ 1048576 by omega)
  · exact (show zl (z.tx 9) ≤ 1048576 by omega)
  · exact (show zl (z.tx 10) ≤ 1048576 by omega)
  · exact (show zl (z.tx 11) ≤ 1048576 by omega)
  · exact (show zl (z.tx 12) ≤ 1048576 by omega)

def BytesPost (zs : List Z) (x : Ending) : Prop := ∃ t : Nat, x = .returned (.int .i64 (t : Nat)) ∧ t ≤ 67108864 ∧ (t ≤ 1048576 → ∀ z ∈ zs, SmZ z)

set_option maxRecDepth 10000 in
set_option maxHeartbeats 4000000 in
theorem bytes_any (ao : Option Addr) (b off n cap : Nat) (zs : List Z) (w : World) (hao : n = 0 ∨ ao = some ⟨b, off, none⟩) (hn : zs.length = n) (hnb : n ≤ 16384) (hrow : ZRow w b off zs) (hsz : ∀ z ∈ zs, SzZ z) :
    Calls Try.prog 6 #[.slice ao n cap] w fun x w' => BytesPost zs x ∧ Below w.heap.size w w' := by
  have HROW : Hid (ZRow w b off zs) := hrow
  have HN : Hid (zs.length = n) := hn
  have HSZ : Hid (∀ z ∈ zs, SzZ z) := hsz
  clear hrow hn hsz
  go_enter Try.func6, Try.ntmps6
  go_wp2
  go_loopw [3, 4] (fun t i wr => ∃ q T : Nat, q ≤ n ∧ i = .int .i64 q ∧ t = .int .i64 T ∧ T ≤ 1048576 ∧ Hid (∀ j, j < q → SmZ (zAt zs j)) ∧ Hid (Below w.heap.size w wr)) (fun _ i _ => n - (intOf i).toNat)
  case atStart => exact ⟨0, 0, Nat.zero_le _, rfl, rfl, by omega, fun j hj => absurd hj (by omega), Below.refl _ _⟩
  case round =>
    obtain ⟨q, T, hq, rfl, rfl, hT, hall, hB⟩ := hrel
    by_cases hlt : q < n
    · obtain rfl : ao = some ⟨b, off, none⟩ := hao.resolve_left (by omega)
      have hx : wr.rangeAt b (off + q * 21) (encZ (zAt zs q)) := (HROW.out.later hB.out) q (by rw [HN.out]; omega)
      have hsz := HSZ.out _ (zAt_mem (zs := zs) (i := q) (by rw [HN.out]; exact hlt))
      obtain ⟨z, hz⟩ : ∃ z, zAt zs q = z := ⟨_, rfl⟩
      rw [hz] at hx hsz
      have HZ : Hid (zAt zs q = z) := hz
      clear hz
      obtain ⟨s0, e0⟩ : ∃ s, z.id = s := ⟨_, rfl⟩
      obtain ⟨s1, e1⟩ : ∃ s, (z.tx 0) = s := ⟨_, rfl⟩
      obtain ⟨s2, e2⟩ : ∃ s, (z.tx 1) = s := ⟨_, rfl⟩
      obtain ⟨s3, e3⟩ : ∃ s, (z.tx 2) = s := ⟨_, rfl⟩
      obtain ⟨s4, e4⟩ : ∃ s, (z.tx 3) = s := ⟨_, rfl⟩
      obtain ⟨s5, e5⟩ : ∃ s, (z.tx 4) = s := ⟨_, rfl⟩
      obtain ⟨s6, e6⟩ : ∃ s, (z.tx 5) = s := ⟨_, rfl⟩
      obtain ⟨s7, e7⟩ : ∃ s, (z.tx 6) = s := ⟨_, rfl⟩
      obtain ⟨s8, e8⟩ : ∃ s, (z.tx 7) = s := ⟨_, rfl⟩
      obtain ⟨s9, e9⟩ : ∃ s, (z.tx 8) = s := ⟨_, rfl⟩
      obtain ⟨s10, e10⟩ : ∃ s, (z.tx 9) = s := ⟨_, rfl⟩
      obtain ⟨s11, e11⟩ : ∃ s, (z.tx 10) = s := ⟨_, rfl⟩
      obtain ⟨s12, e12⟩ : ∃ s, (z.tx 11) = s := ⟨_, rfl⟩
      obtain ⟨s13, e13⟩ : ∃ s, (z.tx 12) = s := ⟨_, rfl⟩
      have hcl : Hid ((encZ z) = [.int .u64 z.hash, .int .i64 z.seq, .string s0, .bool z.put, .string s1, .string s2, .string s3, .string s4, .string s5, .string s6, .string s7, .string s8, .string s9, .string s10, .string s11, .string s12, .string s13, .int .i64 (z.nm 0), .int .i64 (z.nm 1), .int .i64 (z.nm 2), .int .i64 (z.nm 3)]) := by show _ = _; simp only [encZ, e0, e1, e2, e3, e4, e5, e6, e7, e8, e9, e10, e11, e12, e13]
      have hsum : sumZ z = 280 + zl s0 + zl s1 + zl s2 + zl s3 + zl s4 + zl s5 + zl s6 + zl s7 + zl s8 + zl s9 + zl s10 + zl s11 + zl s12 + zl s13 := by simp only [sumZ, e0, e1, e2, e3, e4, e5, e6, e7, e8, e9, e10, e11, e12, e13]
      have m0 : s0.size ≤ maxLen := by rw [← e0]; exact hsz.1
      obtain ⟨l0, f0⟩ : ∃ l, zl s0 = l := ⟨_, rfl⟩
      have b0 : l0 ≤ 2097152 := by rw [← f0]; exact zl_le _
      have m1 : s1.size ≤ maxLen := by rw [← e1]; exact hsz.2 0
      obtain ⟨l1, f1⟩ : ∃ l, zl s1 = l := ⟨_, rfl⟩
      have b1 : l1 ≤ 2097152 := by rw [← f1]; exact zl_le _
      have m2 : s2.size ≤ maxLen := by rw [← e2]; exact hsz.2 1
      obtain ⟨l2, f2⟩ : ∃ l, zl s2 = l := ⟨_, rfl⟩
      have b2 : l2 ≤ 2097152 := by rw [← f2]; exact zl_le _
      have m3 : s3.size ≤ maxLen := by rw [← e3]; exact hsz.2 2
      obtain ⟨l3, f3⟩ : ∃ l, zl s3 = l := ⟨_, rfl⟩
      have b3 : l3 ≤ 2097152 := by rw [← f3]; exact zl_le _
      have m4 : s4.size ≤ maxLen := by rw [← e4]; exact hsz.2 3
      obtain ⟨l4, f4⟩ : ∃ l, zl s4 = l := ⟨_, rfl⟩
      have b4 : l4 ≤ 2097152 := by rw [← f4]; exact zl_le _
      have m5 : s5.size ≤ maxLen := by rw [← e5]; exact hsz.2 4
      obtain ⟨l5, f5⟩ : ∃ l, zl s5 = l := ⟨_, rfl⟩
      have b5 : l5 ≤ 2097152 := by rw [← f5]; exact zl_le _
      have m6 : s6.size ≤ maxLen := by rw [← e6]; exact hsz.2 5
      obtain ⟨l6, f6⟩ : ∃ l, zl s6 = l := ⟨_, rfl⟩
      have b6 : l6 ≤ 2097152 := by rw [← f6]; exact zl_le _
      have m7 : s7.size ≤ maxLen := by rw [← e7]; exact hsz.2 6
      obtain ⟨l7, f7⟩ : ∃ l, zl s7 = l := ⟨_, rfl⟩
      have b7 : l7 ≤ 2097152 := by rw [← f7]; exact zl_le _
      have m8 : s8.size ≤ maxLen := by rw [← e8]; exact hsz.2 7
      obtain ⟨l8, f8⟩ : ∃ l, zl s8 = l := ⟨_, rfl⟩
      have b8 : l8 ≤ 2097152 := by rw [← f8]; exact zl_le _
      have m9 : s9.size ≤ maxLen := by rw [← e9]; exact hsz.2 8
      obtain ⟨l9, f9⟩ : ∃ l, zl s9 = l := ⟨_, rfl⟩
      have b9 : l9 ≤ 2097152 := by rw [← f9]; exact zl_le _
      have m10 : s10.size ≤ maxLen := by rw [← e10]; exact hsz.2 9
      obtain ⟨l10, f10⟩ : ∃ l, zl s10 = l := ⟨_, rfl⟩
      have b10 : l10 ≤ 2097152 := by rw [← f10]; exact zl_le _
      have m11 : s11.size ≤ maxLen := by rw [← e11]; exact hsz.2 10
      obtain ⟨l11, f11⟩ : ∃ l, zl s11 = l := ⟨_, rfl⟩
      have b11 : l11 ≤ 2097152 := by rw [← f11]; exact zl_le _
      have m12 : s12.size ≤ maxLen := by rw [← e12]; exact hsz.2 11
      obtain ⟨l12, f12⟩ : ∃ l, zl s12 = l := ⟨_, rfl⟩
      have b12 : l12 ≤ 2097152 := by rw [← f12]; exact zl_le _
      have m13 : s13.size ≤ maxLen := by rw [← e13]; exact hsz.2 12
      obtain ⟨l13, f13⟩ : ∃ l, zl s13 = l := ⟨_, rfl⟩
      have b13 : l13 ≤ 2097152 := by rw [← f13]; exact zl_le _
      rw [f0, f1, f2, f3, f4, f5, f6, f7, f8, f9, f10, f11, f12, f13] at hsum
      clear e0 e1 e2 e3 e4 e5 e6 e7 e8 e9 e10 e11 e12 e13
      have F0 : Hid (zl s0 = l0) := f0
      have F1 : Hid (zl s1 = l1) := f1
      have F2 : Hid (zl s2 = l2) := f2
      have F3 : Hid (zl s3 = l3) := f3
      have F4 : Hid (zl s4 = l4) := f4
      have F5 : Hid (zl s5 = l5) := f5
      have F6 : Hid (zl s6 = l6) := f6
      have F7 : Hid (zl s7 = l7) := f7
      have F8 : Hid (zl s8 = l8) := f8
      have F9 : Hid (zl s9 = l9) := f9
      have F10 : Hid (zl s10 = l10) := f10
      have F11 : Hid (zl s11 = l11) := f11
      have F12 : Hid (zl s12 = l12) := f12
      have F13 : Hid (zl s13 = l13) := f13
      clear f0 f1 f2 f3 f4 f5 f6 f7 f8 f9 f10 f11 f12 f13
      have HSUM : Hid (sumZ z = 280 + l0 + l1 + l2 + l3 + l4 + l5 + l6 + l7 + l8 + l9 + l10 + l11 + l12 + l13) := hsum
      clear hsum hsz
      have hth : (wr.alloc (.cells #[.int .u64 0, .int .i64 0, .string ⟨#[]⟩, .bool false, .string ⟨#[]⟩, .string ⟨#[]⟩, .string ⟨#[]⟩, .string ⟨#[]⟩, .string ⟨#[]⟩, .string ⟨#[]⟩, .string ⟨#[]⟩, .string ⟨#[]⟩, .string ⟨#[]⟩, .string ⟨#[]⟩, .string ⟨#[]⟩, .string ⟨#[]⟩, .string ⟨#[]⟩, .int .i64 0, .int .i64 0, .int .i64 0, .int .i64 0] 41)).there wr.heap.size 0 (encZ z).length := there_new wr #[.int .u64 0, .int .i64 0, .string ⟨#[]⟩, .bool false, .string ⟨#[]⟩, .string ⟨#[]⟩, .string ⟨#[]⟩, .string ⟨#[]⟩, .string ⟨#[]⟩, .string ⟨#[]⟩, .string ⟨#[]⟩, .string ⟨#[]⟩, .string ⟨#[]⟩, .string ⟨#[]⟩, .string ⟨#[]⟩, .string ⟨#[]⟩, .string ⟨#[]⟩, .int .i64 0, .int .i64 0, .int .i64 0, .int .i64 0] 41
      go_upto_region 5 with fail
      go_upto_region 6 with (first
        | (refine wpList_load_mid rfl 41 _ rfl b (off + q * 21) rfl (encZ z) _ hx Try.underlying41 rfl Try.size41 ?_)
        | (refine wpList_store_named rfl rfl 41 _ _ rfl wr.heap.size 0 (encZ z) rfl rfl hth Try.size41 (encZ_one _) ?_; intro W2 hW2))
      have hr2 : W2.rangeAt wr.heap.size 0 (encZ z) := by rw [hW2.out]; exact World.rangeAt_setCells_same _ _ _ _ hth
      have hB2 : Hid (Below w.heap.size w W2) := by
        rw [hW2.out]
        exact Below.setCells' (hB.out.alloc hB.out.size _) hB.out.size _ _
      rw [hcl.out] at hr2
      have y0 : W2.cell? ⟨wr.heap.size, 2, none⟩ = some (.string s0) := by have := hr2 2 _ rfl; rwa [Nat.zero_add] at this
      have y1 : W2.cell? ⟨wr.heap.size, 4, none⟩ = some (.string s1) := by have := hr2 4 _ rfl; rwa [Nat.zero_add] at this
      have y2 : W2.cell? ⟨wr.heap.size, 5, none⟩ = some (.string s2) := by have := hr2 5 _ rfl; rwa [Nat.zero_add] at this
      have y3 : W2.cell? ⟨wr.heap.size, 6, none⟩ = some (.string s3) := by have := hr2 6 _ rfl; rwa [Nat.zero_add] at this
      have y4 : W2.cell? ⟨wr.heap.size, 7, none⟩ = some (.string s4) := by have := hr2 7 _ rfl; rwa [Nat.zero_add] at this
      have y5 : W2.cell? ⟨wr.heap.size, 8, none⟩ = some (.string s5) := by have := hr2 8 _ rfl; rwa [Nat.zero_add] at this
      have y6 : W2.cell? ⟨wr.heap.size, 9, none⟩ = some (.string s6) := by have := hr2 9 _ rfl; rwa [Nat.zero_add] at this
      have y7 : W2.cell? ⟨wr.heap.size, 10, none⟩ = some (.string s7) := by have := hr2 10 _ rfl; rwa [Nat.zero_add] at this
      have y8 : W2.cell? ⟨wr.heap.size, 11, none⟩ = some (.string s8) := by have := hr2 11 _ rfl; rwa [Nat.zero_add] at this
      have y9 : W2.cell? ⟨wr.heap.size, 12, none⟩ = some (.string s9) := by have := hr2 12 _ rfl; rwa [Nat.zero_add] at this
      have y10 : W2.cell? ⟨wr.heap.size, 13, none⟩ = some (.string s10) := by have := hr2 13 _ rfl; rwa [Nat.zero_add] at this
      have y11 : W2.cell? ⟨wr.heap.size, 14, none⟩ = some (.string s11) := by have := hr2 14 _ rfl; rwa [Nat.zero_add] at this
      have y12 : W2.cell? ⟨wr.heap.size, 15, none⟩ = some (.string s12) := by have := hr2 15 _ rfl; rwa [Nat.zero_add] at this
      have y13 : W2.cell? ⟨wr.heap.size, 16, none⟩ = some (.string s13) := by have := hr2 16 _ rfl; rwa [Nat.zero_add] at this
      clear hr2 hth hW2 hx hcl
      have hTb : T ≤ 1048576 := hT
      go_quiet (first | (go_at_call_of 18 (Value.string s0); exact Calls.quiet_of_same (zzLen_at s0 l0 _ m0 F0.out)) | (go_at_call_of 18 (Value.string s1); exact Calls.quiet_of_same (zzLen_at s1 l1 _ m1 F1.out)) | (go_at_call_of 18 (Value.string s2); exact Calls.quiet_of_same (zzLen_at s2 l2 _ m2 F2.out)) | (go_at_call_of 18 (Value.string s3); exact Calls.quiet_of_same (zzLen_at s3 l3 _ m3 F3.out)) | (go_at_call_of 18 (Value.string s4); exact Calls.quiet_of_same (zzLen_at s4 l4 _ m4 F4.out)) | (go_at_call_of 18 (Value.string s5); exact Calls.quiet_of_same (zzLen_at s5 l5 _ m5 F5.out)) | (go_at_call_of 18 (Value.string s6); exact Calls.quiet_of_same (zzLen_at s6 l6 _ m6 F6.out)) | (go_at_call_of 18 (Value.string s7); exact Calls.quiet_of_same (zzLen_at s7 l7 _ m7 F7.out)) | (go_at_call_of 18 (Value.string s8); exact Calls.quiet_of_same (zzLen_at s8 l8 _ m8 F8.out)) | (go_at_call_of 18 (Value.string s9); exact Calls.quiet_of_same (zzLen_at s9 l9 _ m9 F9.out)) | (go_at_call_of 18 (Value.string s10); exact Calls.quiet_of_same (zzLen_at s10 l10 _ m10 F10.out)) | (go_at_call_of 18 (Value.string s11); exact Calls.quiet_of_same (zzLen_at s11 l11 _ m11 F11.out)) | (go_at_call_of 18 (Value.string s12); exact Calls.quiet_of_same (zzLen_at s12 l12 _ m12 F12.out)) | (go_at_call_of 18 (Value.string s13); exact Calls.quiet_of_same (zzLen_at s13 l13 _ m13 F13.out)))
      have hB3 : Hid (Below w.heap.size w (W2.drewN nq)) := ⟨hB2.out.os, hB2.out.tape, hB2.out.output, hB2.out.size, hB2.out.block⟩
      go_wp2
      · go_ret
        refine ⟨⟨T + sumZ z, ret_i64 (by rw [HSUM.out]; omega), by rw [HSUM.out]; omega, fun h => ?_⟩, hB3.out⟩
        rw [HSUM.out] at h
        omega
      · have hsm : T + sumZ z ≤ 1048576 := by rw [HSUM.out]; omega
        go_roundw
        case rel =>
          refine ⟨q + 1, T + sumZ z, hlt, by go_num, ?_, hsm, fun j hj => ?_, hB3⟩
          · rw [HSUM.out]
            congr 1
          · by_cases e : j = q
            · rw [e, HZ.out]
              exact sum_small hsm
            · exact hall.out j (by omega)
        case measure => simp [intOf]; omega
    · obtain rfl : q = n := by omega
      go_wp2
      go_ret
      refine ⟨⟨T, rfl, by omega, fun _ z hz => ?_⟩, hB.out⟩
      obtain ⟨j, hj, rfl⟩ := List.mem_iff_getElem.1 hz
      have := hall.out j (by rw [HN.out] at hj; exact hj)
      unfold zAt at this
      rw [List.getD_eq_getElem?_getD, List.getElem?_eq_getElem hj] at this
      exact this
end Go.Proofs.Qxb6603644a
