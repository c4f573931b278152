/-
  THE WALK of zzMake (10).
-/
import Derived.Test.Qxb6603644aMake
namespace Go.Proofs.Qxb6603644a
open Go.RowKit Go.Shelf

theorem MKR.cell {w : World} {A D n k : Nat} {zs : List Z} {W : World} (h : MKR w A D n k zs W) (hk : k < n) (j : Nat) (hj : j < 4) : (∃ v, W.cell? ⟨D, k * 4 + j, none⟩ = some v) ∧ W.frozen? ⟨D, k * 4 + j, none⟩ = false := by
  have := h.ok.tD (k * 4 + j) (by omega)
  rw [Nat.zero_add] at this
  exact ⟨Option.isSome_iff_exists.1 this.1, this.2⟩

theorem MKR.cell0 {w : World} {A D n k : Nat} {zs : List Z} {W : World} (h : MKR w A D n k zs W) (hk : k < n) : (∃ v, W.cell? ⟨D, k * 4, none⟩ = some v) ∧ W.frozen? ⟨D, k * 4, none⟩ = false := h.cell hk 0 (by omega)

set_option maxRecDepth 10000 in
set_option maxHeartbeats 2000000 in
theorem make_some (b off n cap : Nat) (zs : List Z) (w : World) (hn : zs.length = n) (hnb : n ≤ 16384) (hrow : ZRow w b off zs) :
    Calls Try.prog 10 #[.slice (some ⟨b, off, none⟩) n cap] w fun x w' => x = .returned (.slice (some ⟨w.heap.size + 1, 0, none⟩) n n) ∧ MK w w.heap.size (w.heap.size + 1) n n zs w' := by
  have HROW : Hid (ZRow w b off zs) := hrow
  have HN : Hid (zs.length = n) := hn
  clear hrow hn
  obtain ⟨a1, ha1, hm1⟩ := mkN Try.underlying46 Try.info53 (by decide) n hnb
  obtain ⟨a2, ha2, hm2⟩ := mkN Try.underlying28 Try.info56 (by decide) n hnb
  have HA1 : Hid (a1.size = n * 18) := ha1
  have HA2 : Hid (a2.size = n * 4) := ha2
  clear ha1 ha2
  have hM0 : Hid (MK w w.heap.size (w.heap.size + 1) n 0 zs ((w.alloc (.cells a1 53)).alloc (.cells a2 56))) := by
    refine ⟨fun i hi => absurd hi (by omega), fun i hi => absurd hi (by omega), ?_, ?_, by omega, by omega, by simp; omega, ((Below.refl w.heap.size w).alloc (Nat.le_refl _) _).alloc (by simp) _, fun o => ?_⟩
    · have h1 := there_new w a1 53
      rw [HA1.out] at h1
      exact there_below h1 ((Below.refl _ _).alloc (Nat.le_refl _) _) (by simp)
    · have h1 := there_new (w.alloc (.cells a1 53)) a2 56
      rw [HA2.out, World.size_alloc] at h1
      exact h1
    · have hnew := heap_alloc_new (w.alloc (.cells a1 53)) (.cells a2 56)
      rw [World.size_alloc] at hnew
      exact Lib.frozen_of_heap hnew o
  go_enter Try.func10, Try.ntmps10
  go_wp2
  clear hm1 hm2
  go_loopw [5] (fun i wr => ∃ k : Nat, k ≤ n ∧ i = .int .i64 k ∧ Hid (MK w w.heap.size (w.heap.size + 1) n k zs wr)) (fun i _ => n - (intOf i).toNat)
  case atStart => exact ⟨0, Nat.zero_le _, rfl, hM0⟩
  case round =>
    clear hM0
    obtain ⟨k, hk, rfl, hM⟩ := hrel
    by_cases hlt : k < n
    · have hrg : wr.rangeAt b (off + k * 21) (encZ (zAt zs k)) := (HROW.out.later hM.out.below) k (by rw [HN.out]; exact hlt)
      have r0 := hrg 0 _ rfl
      have r1 := hrg 1 _ rfl
      have r2 := hrg 2 _ rfl
      have r3 := hrg 3 _ rfl
      rw [Nat.add_zero] at r0
      obtain ⟨lt1, lt2⟩ := hM.out.lt
      obtain ⟨z, hz⟩ : ∃ z, zAt zs k = z := ⟨_, rfl⟩
      rw [hz] at r0 r1 r2 r3 hrg
      have HZ : Hid (zAt zs k = z) := hz
      clear hz
      cases hp : z.put
      · rw [hp] at r3
        have HR3 : Hid (MKR w w.heap.size (w.heap.size + 1) n k zs wr) := ⟨hM.out, fun h => by rw [HZ.out, hp] at h; cases h⟩
        have hrg3 := hrg
        go_upto_region 10 with fail
        have s0 := hrg3 0 _ rfl
        have s1 := hrg3 1 _ rfl
        have s2 := hrg3 2 _ rfl
        rw [Nat.add_zero] at s0
        have hcc : Hid (cellsC (mkC w.heap.size zs k) = [.int .u64 z.hash, .int .i64 z.seq, .string z.id, .pointer (none)]) := by
          show _ = _
          simp only [cellsC, mkC, C.hash, C.seq, C.id, ofZ, HZ.out, hp]
          rfl
        clear r0 r1 r2 r3 hrg hrg3
        go_region_with ((go_at_call 24; refine (zzNew_any z.hash z.seq z.id (none) _).mono ?_; rintro x4 w4 ⟨rfl, hb4⟩; have t0 := Keep.below (X := Nowhere) hb4 _ _ (fun h => h) s0; have t1 := Keep.below (X := Nowhere) hb4 _ _ (fun h => h) s1; have t2 := Keep.below (X := Nowhere) hb4 _ _ (fun h => h) s2; have hR4 := HR3.out.drew.later hb4; obtain ⟨⟨v0, y0⟩, g0⟩ := MKR.cell0 hR4 hlt; obtain ⟨⟨v1, y1⟩, g1⟩ := MKR.cell hR4 hlt 1 (by omega); obtain ⟨⟨v2, y2⟩, g2⟩ := MKR.cell hR4 hlt 2 (by omega); obtain ⟨⟨v3, y3⟩, g3⟩ := MKR.cell hR4 hlt 3 (by omega)))
        all_goals
          have hM5 : Hid (MK w w.heap.size (w.heap.size + 1) n (k + 1) zs (w4.setCells (w.heap.size + 1) (k * 4) [.int .u64 z.hash, .int .i64 z.seq, .string z.id, .pointer (none)])) := by
            have := hR4.putC hlt
            rw [hcc.out] at this
            exact this
          clear y0 y1 y2 y3 g0 g1 g2 g3
          go_wp2
          go_roundw
          case rel => exact ⟨k + 1, hlt, by go_num, hM5⟩
          case measure => simp [intOf]; omega
      · rw [hp] at r3
        have hth : wr.there w.heap.size (k * 18) (routeCells (toR z)).length := there_sub hM.out.tA (Nat.zero_le _) (by show k * 18 + 18 ≤ _; omega)
        go_upto_region 8 with fail
        go_upto_region 10 with (first
          | (refine wpList_load_mid rfl 41 _ rfl b (off + k * 21) rfl (encZ z) _ hrg Try.underlying41 rfl Try.size41 ?_)
          | (go_at_call 23; refine (zzRoute_any z _).mono ?_; rintro x2 w2 ⟨rfl, hb2⟩)
          | (refine wpList_store_named rfl rfl 53 _ _ rfl w.heap.size (k * 18) (routeCells (toR z)) rfl rfl (there_below hth hb2 lt1) Try.size53 (route_one _) ?_; intro W3 hW3))
        have hW3M : Hid (MKR w w.heap.size (w.heap.size + 1) n k zs W3) := by
          have := (hM.out.later hb2).putR hlt
          rw [HZ.out, ← hW3.out] at this
          exact this
        have HR3 := hW3M
        have hrg3 : W3.rangeAt b (off + k * 21) (encZ z) := by
          have := (HROW.out.later HR3.out.ok.below) k (by rw [HN.out]; exact hlt)
          rw [HZ.out] at this
          exact this
        clear hW3 hth
        have s0 := hrg3 0 _ rfl
        have s1 := hrg3 1 _ rfl
        have s2 := hrg3 2 _ rfl
        rw [Nat.add_zero] at s0
        have hcc : Hid (cellsC (mkC w.heap.size zs k) = [.int .u64 z.hash, .int .i64 z.seq, .string z.id, .pointer (some ⟨w.heap.size, k * 18, none⟩)]) := by
          show _ = _
          simp only [cellsC, mkC, C.hash, C.seq, C.id, ofZ, HZ.out, hp]
          rfl
        clear r0 r1 r2 r3 hrg hrg3
        go_region_with ((go_at_call 24; refine (zzNew_any z.hash z.seq z.id (some ⟨w.heap.size, k * 18, none⟩) _).mono ?_; rintro x4 w4 ⟨rfl, hb4⟩; have t0 := Keep.below (X := Nowhere) hb4 _ _ (fun h => h) s0; have t1 := Keep.below (X := Nowhere) hb4 _ _ (fun h => h) s1; have t2 := Keep.below (X := Nowhere) hb4 _ _ (fun h => h) s2; have hR4 := HR3.out.drew.later hb4; obtain ⟨⟨v0, y0⟩, g0⟩ := MKR.cell0 hR4 hlt; obtain ⟨⟨v1, y1⟩, g1⟩ := MKR.cell hR4 hlt 1 (by omega); obtain ⟨⟨v2, y2⟩, g2⟩ := MKR.cell hR4 hlt 2 (by omega); obtain ⟨⟨v3, y3⟩, g3⟩ := MKR.cell hR4 hlt 3 (by omega)))
        all_goals
          have hM5 : Hid (MK w w.heap.size (w.heap.size + 1) n (k + 1) zs (w4.setCells (w.heap.size + 1) (k * 4) [.int .u64 z.hash, .int .i64 z.seq, .string z.id, .pointer (some ⟨w.heap.size, k * 18, none⟩)])) := by
            have := hR4.putC hlt
            rw [hcc.out] at this
            exact this
          clear y0 y1 y2 y3 g0 g1 g2 g3
          go_wp2
          go_roundw
          case rel => exact ⟨k + 1, hlt, by go_num, hM5⟩
          case measure => simp [intOf]; omega
    · obtain rfl : k = n := by omega
      go_wp2
      go_ret
      exact ⟨rfl, hM.out⟩
end Go.Proofs.Qxb6603644a
