/-
  strings.Builder's WriteString (56) on a builder that Grow has already made 'used' (its 'addr' is its own address): the copy check (73) passes, its other arms are not met.
-/
import Derived.Test.Qxb6603644aRows
import Derived.Test.Qxb6603644aShelf
import Derived.WalkKit
import Derived.WalkSpells
import Derived.WalkLawsBesides
import Derived.BigQuiet
import Derived.Deep.QuietTactic
import Derived.Deep.Light
import Derived.Lib.OthersKept
namespace Go.Proofs.Qxb6603644a
open Go.RowKit

/-- a builder in use: block b, one of the call's own (from B on), holds the bytes bs -/
def Used (B b : Nat) (bs : List Value) (w : World) : Prop := Lib.BuilderAt 112 5 B b (.pointer (some ⟨b, 0, none⟩)) bs w

theorem Try.info5 : (Try.prog.info? 5).map (fun i => (i.zero, i.size, i.bytes)) = some (some (.int .u8 0), 1, 1) := by kernel_rfl
theorem Try.info112 : (Try.prog.info? 112).isSome = true := by kernel_rfl

set_option maxRecDepth 10000 in
theorem copyCheck_used (b : Nat) (w : World) (h0 : w.cell? ⟨b, 0, none⟩ = some (.pointer (some ⟨b, 0, none⟩))) :
    Calls Try.prog 73 #[.pointer (some ⟨b, 0, none⟩)] w fun e w' => e = .returned (.tuple #[]) ∧ w' = w := by
  obtain ⟨j, hj⟩ := Option.isSome_iff_exists.1 Try.info112
  go_enter Try.func73, Try.ntmps73
  go_wp2
  rw [Lib.run_neq_ptr_same w _ Try.underlying109 hj]
  go_wp2
  go_end0
  exact ⟨rfl, rfl⟩

set_option maxRecDepth 10000 in
set_option maxHeartbeats 1000000 in
theorem writeString (B b : Nat) (bs : List Value) (s : ByteArray) (w : World) (h : Used B b bs w) (hlen : bs.length + s.size ≤ 140737488355328) (hBw : B ≤ w.heap.size) :
    Calls Try.prog 56 #[.pointer (some ⟨b, 0, none⟩), .string s] w fun e w' => e = .returned (.tuple #[.int .i64 s.size, .nilIface]) ∧ Used B b (bs ++ Lib.strCells s) w' ∧ Below B w w' ∧ Lib.OthersKept 5 (some b) w w' := by
  obtain ⟨i0, hi, hz0, hz1, hz2⟩ := info_parts Try.info5
  obtain ⟨hB, v, hbk, hown, hne⟩ := h
  have c0 : w.cell? ⟨b, 0, none⟩ = some (.pointer (some ⟨b, 0, none⟩)) := by rw [Lib.cell_of_heap hbk]; rfl
  have c1 : w.cell? ⟨b, 1, none⟩ = some v := by rw [Lib.cell_of_heap hbk]; rfl
  go_enter Try.func56, Try.ntmps56
  go_wp2_with (first
    | (go_at_call 73; refine (copyCheck_used b _ c0).mono ?_; rintro e w1 ⟨rfl, hw1⟩; subst w1)
    | (at_builtin; refine Lib.wpList_append_own_string _ rfl _ _ 110 9 rfl B 5 i0 Try.underlying110 Try.underlying9 hi hz0 hz1 hz2 _ _ _ rfl hown s rfl ?c3 ?c4 ?c5 ?_))
  case c3 => unfold maxLen; omega
  case c4 => omega
  case c5 => omega
  intro v' w2 hown' hgrow _
  have hlt : b < w.heap.size := by
    rcases Nat.lt_or_ge b w.heap.size with h' | h'
    · exact h'
    · simp [Array.getElem?_eq_none h'] at hbk
  have hb2 : w2.heap[b]? = some (.cells #[.pointer (some ⟨b, 0, none⟩), v] 112 (0, 0)) := by
    rw [hgrow.block b hlt (fun e => hne e.symm)]
    exact hbk
  have d0 : w2.cell? ⟨b, 0, none⟩ = some (.pointer (some ⟨b, 0, none⟩)) := by rw [Lib.cell_of_heap hb2]; rfl
  have d1 : w2.cell? ⟨b, 1, none⟩ = some v := by rw [Lib.cell_of_heap hb2]; rfl
  have f1 : w2.frozen? ⟨b, 1, none⟩ = false := Lib.frozen_of_heap hb2 1
  obtain ⟨ao, n', cap, rfl⟩ : ∃ ao n' cap, v' = .slice ao n' cap := by
    rcases hown'.2 with ⟨hv, _⟩ | ⟨g, cap, cur, hv, _⟩
    · exact ⟨_, _, _, hv⟩
    · exact ⟨_, _, _, hv⟩
  go_wp2
  go_ret2
  refine ⟨rfl, ?_, ?_, ?_⟩
  · exact Lib.BuilderAt.put (T := 112) (e := 5) hB hb2 (bs' := bs ++ Lib.strCells s) (by simpa [Lib.strCells_length] using hown') (by decide)
  · exact ((Below.refl B w).grown hgrow hBw (fun k hk => (hown.lt k hk).1)).setCell (p := ⟨b, 1, none⟩) hB _
  · refine (((Lib.OthersKept.refl 5 (some b) w).grown hgrow ?_)).setCell ⟨b, 1, none⟩ rfl _
    intro g hg
    rcases hown.2 with ⟨rfl, _⟩ | ⟨g', cap', cur, rfl, _, hgg, _⟩
    · simp [Value.ownBlock] at hg
    · simp [Value.ownBlock] at hg
      subst hg
      exact ⟨cur, _, hgg⟩
end Go.Proofs.Qxb6603644a
