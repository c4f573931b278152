/-
  apply (22) on no node and on a leaf.
-/
import Derived.Test.Qxb6603644aApp1
namespace Go.Proofs.Qxb6603644a
open Go.RowKit Go.Shelf

theorem AH.rowOK {d : Nat} {P : Int} {t : Tr} {w : World} {N : Nat → Prop} {b off n cap : Nat} {cs : List C} (h : AH d P t w N b off n cap cs) (h0 : 0 < n) : RowOK w b off n cap cs d P :=
  ⟨h.d16, h.len, h0, by have := h.cnt; omega, h.cap1, h.cap2, h.row, h.rts, h.fz, h.srt, h.pre, fun a ha b hb => h.one a (List.mem_append_right _ ha) b (List.mem_append_right _ hb), fun c hc => h.hr _ (List.mem_append_right _ (List.mem_map_of_mem hc))⟩
theorem RowOK.drew {w : World} {b off n cap d : Nat} {cs : List C} {P : Int} (h : RowOK w b off n cap cs d P) : RowOK w.drew b off n cap cs d P :=
  ⟨h.d16, h.len, h.pos, h.nb, h.cap1, h.cap2, h.row, h.rts.keep (X := Nowhere) (fun _ _ _ h => h) (fun _ h => h.elim), h.fz, h.srt, h.pre, h.one, h.hr⟩
theorem AH.lt {d : Nat} {P : Int} {t : Tr} {w : World} {N : Nat → Prop} {b off n cap : Nat} {cs : List C} (h : AH d P t w N b off n cap cs) (h0 : 0 < n) : b < w.heap.size := cell_lt (h.row 0 (by rw [h.len]; exact h0)).1

set_option maxRecDepth 10000 in
set_option maxHeartbeats 1000000 in
theorem apply_nil {d : Nat} {P : Int} {w : World} {N : Nat → Prop} {b off n cap : Nat} {cs : List C} (hA : AH d P .nil w N b off n cap cs) (h0 : 0 < n) :
    Calls Try.prog 22 #[.pointer none, .int .i64 (4 * d : Nat), .slice (some ⟨b, off, none⟩) n cap] w fun x w' => ∃ t', x = .returned (.pointer t'.ptr) ∧ AP d .nil w N b off n cs t' w' := by
  have hbl := hA.lt h0
  have hnb : n ≤ 16384 := by have := hA.cnt; omega
  obtain ⟨s, hs⟩ : ∃ s, 4 * d = s := ⟨_, rfl⟩
  have hs64 : s ≤ 64 := by have := hA.d16; omega
  have HR1 : Hid (RowOK (w.alloc (.cells #[.int .i64 (s : Int)] 3)) b off n cap cs d P) := (hA.alloc hbl _).rowOK h0
  have HA : Hid (AH d P .nil w N b off n cap cs) := hA
  rw [hs]
  have HS : Hid (4 * d = s) := hs
  clear hA hs
  obtain ⟨W1, hW1⟩ : ∃ W1, W1 = (w.alloc (.cells #[.int .i64 (s : Int)] 3)).drew := ⟨_, rfl⟩
  have HR2 : Hid (RowOK W1 b off n cap cs d P) := by rw [hW1]; exact HR1.out.drew
  have q0 : W1.cell? ⟨w.heap.size, 0, none⟩ = some (.int .i64 (s : Int)) := by
    rw [hW1]
    show World.cell? (w.alloc _) _ = _
    rw [Lib.cell_of_heap (heap_alloc_new _ _)]
    rfl
  have hb01 : Below w.heap.size w W1 := by rw [hW1]; exact ((Below.refl w.heap.size w).alloc (Nat.le_refl _) _).drew
  have ho1 : KeepsOthers w W1 := keepsOthers_of hb01
  have HW1 : Hid (W1 = (w.alloc (.cells #[.int .i64 (s : Int)] 3)).drew) := hW1
  clear hW1 HR1
  have hset := sb_settle HR2.out
  rw [HW1.out] at hset
  go_enter Try.func22, Try.ntmps22
  go_wp2
  go_region_held3 (fun W5 => W5.cell? ⟨w.heap.size, 0, none⟩ = some (.int .i64 (s : Int))) (first | exact q2 | exact q1 | (rw [← HW1.out]; exact q0) | simp) (first
    | (go_at_call 38; refine hbld.mono ?_; rintro x2 w2 ⟨t', rfl, hbl2, hT2, hB2⟩; have q2 : w2.cell? ⟨w.heap.size, 0, none⟩ = some (.int .i64 (s : Int)) := (Keep.below (X := Nowhere) hB2 _ _ (fun h => h) q1))
    | (go_at_call 39; refine hset.mono ?_; rintro x1 w1 ⟨rfl, hS1⟩; rw [← HW1.out] at hS1; have q1 : w1.cell? ⟨w.heap.size, 0, none⟩ = some (.int .i64 (s : Int)) := (hS1.keep _ _ (fun h => absurd h.1 (by show w.heap.size ≠ b; omega)) q0); have hbld := sb_build HR2.out hS1; rw [HS.out] at hbld))
  go_wp2
  go_ret
  have hb1 : w.heap.size ≤ w1.heap.size := Nat.le_trans hb01.size hS1.below.size
  have hb2 := hS1.below.size
  refine ⟨t', rfl, ?_, hT2.mono (fun k hk => by have := hk.2; show k < w1.heap.size; omega), ?_, ?_, ?_, ?_, fun k hk hl => ?_⟩
  · have : cs.map (fun c => c.k) ≠ [] := by
      intro e
      have := congrArg List.length e
      rw [List.length_map, HA.out.len] at this
      simp at this
      omega
    cases d with
    | zero => exact .inr ⟨this, hbl2⟩
    | succ d => exact .inr ⟨this, hbl2⟩
  · exact ((Keep.below hb01).trans hS1.keep).trans (Keep.below hB2)
  · exact ((hb01.mono (by omega)).trans hS1.below).trans (hB2.mono (by have := hb01.size; omega))
  · exact (ho1.trans hS1.others).trans (keepsOthers_of hB2)
  · exact fz_below hB2 (by omega) hS1.fz
  · rw [hB2.block k (by omega), hS1.blk k hk (by have := hb01.size; omega), hb01.block k hl]
end Go.Proofs.Qxb6603644a
