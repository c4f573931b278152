/-
  GLUE: the law's order is the package's; a made row of changes is what apply asks.
-/
import Derived.Test.Qxb6603644aMake
import Derived.Test.Qxb6603644aModel
namespace Go.Proofs.Qxb6603644a
open Go.RowKit Go.Shelf

theorem toList_eq_iff (a b : ByteArray) : (a.toList == b.toList) = true ↔ a.data.toList = b.data.toList := by rw [beq_iff_eq, Lib.toList_data, Lib.toList_data]
theorem cmpZ_lt (x y : Z) : cmpZ x y < 0 ↔ ksl (ofZ x) (ofZ y) := by
  have hk : ksl (ofZ x) (ofZ y) ↔ ((x.hash < y.hash ∨ (x.hash = y.hash ∧ x.id.data.toList < y.id.data.toList)) ∨ ((x.hash = y.hash ∧ x.id.data.toList = y.id.data.toList) ∧ x.seq < y.seq)) := Iff.rfl
  rw [hk]
  unfold cmpZ
  by_cases h1 : x.hash = y.hash
  · rw [if_neg (by simp [h1])]
    by_cases h2 : x.id.data.toList = y.id.data.toList
    · have e2 : (x.id.toList == y.id.toList) = true := (toList_eq_iff _ _).2 h2
      rw [if_neg (by simp [e2])]
      by_cases h3 : x.seq = y.seq
      · rw [if_neg (by simp [h3])]
        simp [h1, h2, h3, List.lt_irrefl]
      · rw [if_pos (by simpa using h3)]
        by_cases h4 : x.seq < y.seq
        · rw [if_pos h4]
          simp [h1, h2, h4]
        · rw [if_neg h4]
          simp [h1, h2, h4, List.lt_irrefl]
    · have e2 : (x.id.toList == y.id.toList) = false := by
        rw [Bool.eq_false_iff]
        exact fun e => h2 ((toList_eq_iff _ _).1 e)
      rw [if_pos (by rw [e2]; rfl)]
      by_cases h3 : x.id.data.toList < y.id.data.toList
      · rw [if_pos (by rw [Lib.toList_data, Lib.toList_data]; exact (bl_lt _ _).2 h3)]
        simp [h1, h3]
      · rw [if_neg (by rw [Lib.toList_data, Lib.toList_data, bl_lt]; exact h3)]
        simp [h1, h2, h3]
  · rw [if_pos (by simpa using h1)]
    by_cases h3 : x.hash < y.hash
    · rw [if_pos h3]
      simp [h3]
    · rw [if_neg h3]
      simp [h1, h3]
theorem strict_sorted {zs : List Z} (h : ∀ j, j + 1 < zs.length → cmpZ (zAt zs j) (zAt zs (j + 1)) < 0) : (zs.map ofZ).Pairwise ksl := by
  have hc : ∀ (d i : Nat), i + d + 1 < zs.length → ksl (ofZ (zAt zs i)) (ofZ (zAt zs (i + d + 1))) := by
    intro d
    induction d with
    | zero => intro i hi; exact (cmpZ_lt _ _).1 (h i hi)
    | succ d ih =>
      intro i hi
      exact ksl_trans (ih i (by omega)) ((cmpZ_lt _ _).1 (h (i + d + 1) (by omega)))
  rw [List.pairwise_map, List.pairwise_iff_getElem]
  intro i j hi hj hij
  have h1 := hc (j - i - 1) i (by omega)
  rw [show i + (j - i - 1) + 1 = j by omega] at h1
  have e : ∀ q (hq : q < zs.length), zAt zs q = zs[q] := fun q hq => by
    unfold zAt
    rw [List.getD_eq_getElem?_getD, List.getElem?_eq_getElem hq]
    rfl
  rw [e i hi, e j hj] at h1
  exact h1
end Go.Proofs.Qxb6603644a
