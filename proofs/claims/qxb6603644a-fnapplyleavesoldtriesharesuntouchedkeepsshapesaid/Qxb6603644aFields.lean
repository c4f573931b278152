/-
  THE WALK of (*Route).fields (54): the addresses of a route's texts and numbers.
-/
import Derived.Test.Qxb6603644aBase
import Derived.BigRegion
namespace Go.Proofs.Qxb6603644a
open Go.RowKit

/-- where a route's k-th text lies, counted in cells from its beginning -/
def txCell : List Nat := [0, 1, 2, 3, 4, 5, 6, 9, 12, 13, 14, 15, 16, 17]
def nmCell : List Nat := [7, 8, 10, 11]
def ptrs (b off : Nat) (l : List Nat) : Value := .agg (l.map fun k => Value.pointer (some ⟨b, off + k, none⟩)).toArray

set_option maxRecDepth 10000 in
set_option maxHeartbeats 1000000 in
theorem fields_any (b off : Nat) (w : World) : Calls Try.prog 54 #[.pointer (some ⟨b, off, none⟩)] w fun x w' => x = .returned (.tuple #[ptrs b off txCell, ptrs b off nmCell]) ∧ Below w.heap.size w w' := by
  go_enter Try.func54, Try.ntmps54
  go_wp2
  simp only [List.append]
  go_big_region
  go_wp2
  refine bodyPost_ret (v := .tuple #[ptrs b off txCell, ptrs b off nmCell]) ?r rfl ?_
  case r =>
    simp [results, Try.results54, go_sem]
    exact ⟨rfl, rfl⟩
  exact ⟨rfl, (((Below.refl _ w).alloc (Nat.le_refl _) _).alloc (by simp) _).drew⟩
end Go.Proofs.Qxb6603644a
