/-
  slices.Grow (45) on a slice of bytes that is full: a new row.
-/
import Derived.Test.Qxb6603067aLWalk2
import Derived.Lib.AppendZeros
namespace Go.Proofs.Qxb6603067a
open Go.RowKit
open Plain

/-- append(x, make([]byte, n)...) on a full row: a new row: the old bytes, n zeros, and what the new capacity says -/
theorem run_append_row_zeros (w : World) (ty : TypeId) (b : Addr) (zs : List Int) (l n : Nat) (hl : zs.length = l) (hc : ∀ j u, (zs.map (Value.int .u8))[j]? = some u → w.cell? (b.add j) = some u) (h0 : 0 < n) (hsz : l + n ≤ 140737488355328) :
    (Builtin.append_ #[22, 3] ty #[.slice (some b) l l, .int .i64 n]).run Try.prog w =
      .ok (.slice (some ⟨w.heap.size, 0, none⟩) (l + n) (grownCap w (l + n) l 5))
        (w.drew.alloc (.cells ((zs.map (Value.int .u8)).toArray ++ Builtin.zeroCells (Value.int .u8 0).cells n ++ Builtin.zeroCells (Value.int .u8 0).cells (grownCap w (l + n) l 5 - (l + n))) 5)) := by
  obtain ⟨i, hi, hz0, hz1, hz2⟩ := info_parts Try.info5
  have hn : ¬ (l + n ≤ l) := by omega
  have hw : IntKind.i64.wrap (n : Int) = n := by rw [IntKind.wrap_i64]; omega
  have h63' : ¬ (9223372036854775807 < ((l : Int) + (n : Int))) := by omega
  have hneg : ¬ ((n : Int) < 0) := by omega
  have h48' : ¬ (281474976710656 < Builtin.nextslicecap (l + n) l * i.bytes) := by
    have := growslice_fits (need := l + n) (old := l) (bytes := i.bytes) (by omega) (by rw [hz2]; omega)
    omega
  have hfo := run_firstCells_some (P := Try.prog) w.drew i.size l b l l (zs.map (Value.int .u8)) (by simp [hz1, hl]) (by simpa using hc)
  have hn0 : n ≠ 0 := by omega
  have h48i : ¬ (281474976710656 < (n : Int) * (i.bytes : Int)) := by
    rw [hz2]
    omega
  rw [hz1] at hfo
  simp [Builtin.append_, run_underlying Try.underlying22, run_underlying Try.underlying3, sizeOf, typeInfo, zeroValue, hi, hz0, hz1, asInt, asIntOf, hw, hn, hn0, hneg, h63', h48', h48i, Question.forced, hfo, newRow, grownCap]

/-- a slice of bytes that is full: nil, or a whole row -/
def Full (w : World) (v : Value) (zs : List Int) : Prop := (v = .slice none 0 0 ∧ zs = []) ∨ ∃ g, v = .slice (some ⟨g, 0, none⟩) zs.length zs.length ∧ Row w g zs

theorem own_new (w : World) (zs : List Int) (n cap old : Nat) (hcap : cap = grownCap w (zs.length + n) old 5) (hsz : zs.length + n ≤ 140737488355328) (cs : Array Value) (hcs : cs = (zs.map (Value.int .u8)).toArray ++ Builtin.zeroCells (Value.int .u8 0).cells n ++ Builtin.zeroCells (Value.int .u8 0).cells (cap - (zs.length + n))) :
    Own (w.drew.alloc (.cells cs 5)) w.heap.size (.slice (some ⟨w.heap.size, 0, none⟩) zs.length cap) zs := by
  subst hcs
  have hge := grownCap_ge w (zs.length + n) old 5
  have hcm : grownCap w (zs.length + n) old 5 ≤ maxLen := grownCap_le_maxLen w (zs.length + n) old 5 (by unfold maxLen; omega)
  rw [← hcap] at hge hcm
  refine ⟨by simp, .inr ⟨w.heap.size, _, _, rfl, Nat.le_refl _, heap_alloc_new w.drew _, by omega, hcm, ?_, ?_⟩⟩
  · simp only [Array.size_append, List.size_toArray, size_zeroCells, List.length_map]
    have : (Value.int .u8 0).cells.size = 1 := rfl
    rw [this]
    omega
  · simp only [Array.toList_append, List.append_assoc]
    rw [Nat.mul_one]
    have : zs.length = (zs.map (Value.int .u8)).length := by simp
    rw [this]
    exact List.take_left

/-- what the append of Grow does, for nil and for a full row -/
theorem run_grow (v : Value) (zs : List Int) (n : Nat) (w : World) (hv : Full w v zs) (h0 : 0 < n) (hsz : zs.length + n ≤ 140737488355328) :
    ∃ a cap w', v = .slice a zs.length zs.length ∧ (a = none → zs.length = 0) ∧ (∀ ty, (Builtin.append_ #[22, 3] ty #[v, .int .i64 n]).run Try.prog w = .ok (.slice (some ⟨w.heap.size, 0, none⟩) (zs.length + n) cap) w') ∧ zs.length ≤ cap ∧
      Own w' w.heap.size (.slice (some ⟨w.heap.size, 0, none⟩) zs.length cap) zs ∧ Below w.heap.size w w' ∧ w'.heap.size = w.heap.size + 1 := by
  rcases hv with ⟨rfl, rfl⟩ | ⟨g, rfl, hr⟩
  · obtain ⟨i, hi, hz0, hz1, hz2⟩ := info_parts Try.info5
    refine ⟨none, _, _, rfl, fun _ => rfl, fun ty => ?_, ?_, own_new w [] n _ 0 rfl hsz _ rfl, ((Below.refl _ _).drew).alloc (by simp) _, by simp⟩
    · have := Lib.run_append_nil_zeros (P := Try.prog) w 22 3 ty 5 i (.int .u8 0) .i64 .i64 Try.underlying22 Try.underlying3 hi hz0 n h0 (by omega) (by simp at hsz; omega) (by rw [hz2]; simp at hsz; omega)
      simpa using this
    · simp
  · have hrun := fun ty => run_append_row_zeros w ty ⟨g, 0, none⟩ zs zs.length n rfl (fun j u hj => by
      have hjl : j < zs.length := by
        have := (List.getElem?_eq_some_iff.1 hj).1
        simpa using this
      have ha : (⟨g, 0, none⟩ : Addr).add j = ⟨g, j, none⟩ := by
        unfold Addr.add; split <;> simp_all
      rw [ha, hr.cell hjl, ← hj]
      simp [List.getD_eq_getElem?_getD, hjl]) h0 hsz
    exact ⟨_, _, _, rfl, (fun h => by cases h), hrun, Nat.le_trans (Nat.le_add_right _ _) (grownCap_ge w (zs.length + n) zs.length 5), own_new w zs n _ zs.length rfl hsz _ rfl, ((Below.refl _ _).drew).alloc (by simp) _, by simp⟩

set_option maxRecDepth 10000 in
set_option maxHeartbeats 400000 in
theorem Grow_any (v : Value) (zs : List Int) (n : Nat) (w : World) (hv : Full w v zs) (h0 : 0 < n) (hsz : zs.length + n ≤ 140737488355328) :
    Calls Try.prog 45 #[v, .int .i64 n] w fun x w' => ∃ cap, x = .returned (.slice (some ⟨w.heap.size, 0, none⟩) zs.length cap) ∧ Own w' w.heap.size (.slice (some ⟨w.heap.size, 0, none⟩) zs.length cap) zs ∧ Below w.heap.size w w' ∧ w'.heap.size = w.heap.size + 1 := by
  obtain ⟨a, cap, w', rfl, hnone, hrun, hcap, hown, hbel, hs⟩ := run_grow v zs n w hv h0 hsz
  obtain ⟨l, hl⟩ : ∃ l, l = zs.length := ⟨_, rfl⟩
  rw [← hl] at hnone hrun hcap hown hsz ⊢
  have HR : Hid _ := hrun
  have HS : Hid _ := hs
  clear hv hl hrun hs
  cases a with
  | none =>
    obtain rfl : l = 0 := hnone rfl
    go_enter Try.func45, Try.ntmps45
    go_wp2_with (at_builtin; refine Lib.wpList_append_run _ rfl _ _ _ _ rfl _ _ rfl rfl _ _ (HR.out _) ?_)
    go_ret
    exact ⟨cap, rfl, hown, hbel, HS.out⟩
  | some ad =>
    clear hnone
    go_enter Try.func45, Try.ntmps45
    go_wp2_with (at_builtin; refine Lib.wpList_append_run _ rfl _ _ _ _ rfl _ _ rfl rfl _ _ (HR.out _) ?_)
    go_ret
    exact ⟨cap, rfl, hown, hbel, HS.out⟩
end Go.Proofs.Qxb6603067a
