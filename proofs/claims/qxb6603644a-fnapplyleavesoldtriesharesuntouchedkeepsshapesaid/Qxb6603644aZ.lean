/-
  THE LAW's ROWS: how they lie; zzRoute (23), ZZnewChange (24).
-/
import Derived.Test.Qxb6603644aKey
import Derived.Test.Qxb6603644aRoute
namespace Go.Proofs.Qxb6603644a
open Go.RowKit Go.Shelf

instance : Inhabited Z := ⟨⟨0, 0, ByteArray.empty, false, fun _ => ByteArray.empty, fun _ => 0⟩⟩
def zAt (zs : List Z) (i : Nat) : Z := zs.getD i default
/-- a row of the law's rows, from ⟨b, off⟩ on -/
def ZRow (w : World) (b off : Nat) (zs : List Z) : Prop := ∀ i, i < zs.length → w.rangeAt b (off + i * 21) (encZ (zAt zs i))
theorem ZRow.later {w w' : World} {b off : Nat} {zs : List Z} (h : ZRow w b off zs) (hb : Below w.heap.size w w') : ZRow w' b off zs :=
  fun i hi j v hv => Keep.below (X := Nowhere) hb _ _ (fun h => h) (h i hi j v hv)
theorem zAt_mem {zs : List Z} {i : Nat} (h : i < zs.length) : zAt zs i ∈ zs := by
  unfold zAt
  rw [List.getD_eq_getElem?_getD, List.getElem?_eq_getElem h]
  exact List.getElem_mem h

/-- the route of a row -/
def toR (z : Z) : R := ⟨z.hash, fun
  | 0 => z.id
  | 1 => z.tx 0
  | 2 => z.tx 1
  | 3 => z.tx 2
  | 4 => z.tx 3
  | 5 => z.tx 4
  | 6 => z.tx 5
  | 7 => z.tx 6
  | 8 => z.tx 7
  | 9 => z.tx 8
  | 10 => z.tx 9
  | 11 => z.tx 10
  | 12 => z.tx 11
  | 13 => z.tx 12
  | _ => ByteArray.empty, fun
  | 0 => z.nm 0
  | 1 => z.nm 1
  | 2 => z.nm 2
  | 3 => z.nm 3
  | _ => 0⟩
def ofZ (z : Z) : K := ⟨toR z, z.seq, z.put⟩

set_option maxRecDepth 10000 in
set_option maxHeartbeats 1000000 in
theorem zzRoute_any (z : Z) (w : World) : Calls Try.prog 23 #[aggZ z] w fun x w' => x = .returned (aggR (toR z)) ∧ Below w.heap.size w w' := by
  unfold aggZ encZ
  go_enter Try.func23, Try.ntmps23
  go_wp2
  have hnew := heap_alloc_new (w.alloc (.cells (encZ z).toArray 41)) (.cells (routeCells (toR z)).toArray 53)
  rw [World.size_alloc] at hnew
  have hr : ((w.alloc (.cells (encZ z).toArray 41)).alloc (.cells (routeCells (toR z)).toArray 53)).rangeAt (w.heap.size + 1) 0 (routeCells (toR z)) := by
    intro j v hj
    rw [Lib.cell_of_heap hnew, Nat.zero_add, ← hj]
    simp
  have hl := run_loadVar_mid (P := Try.prog) _ (w.heap.size + 1) 0 53 (routeCells (toR z)) _ hr Try.underlying53 rfl Try.size53
  refine bodyPost_ret (v := aggR (toR z)) ?r rfl ?_
  case r => exact results_cell Try.results23 rfl hl
  exact ⟨rfl, ((Below.refl w.heap.size w).alloc (Nat.le_refl _) _).alloc (by simp) _⟩

set_option maxRecDepth 10000 in
theorem zzNew_any (h q : Int) (id : ByteArray) (p : Option Addr) (w : World) : Calls Try.prog 24 #[.int .u64 h, .int .i64 q, .string id, .pointer p] w fun x w' => x = .returned (.agg #[.int .u64 h, .int .i64 q, .string id, .pointer p]) ∧ Below w.heap.size w w' := by
  go_enter Try.func24, Try.ntmps24
  go_wp2
  refine bodyPost_ret (v := .agg #[.int .u64 h, .int .i64 q, .string id, .pointer p]) ?r rfl ?_
  case r => simp [results, Try.results24, go_sem]
  exact ⟨rfl, (Below.refl w.heap.size w).alloc (Nat.le_refl _) _⟩
end Go.Proofs.Qxb6603644a
