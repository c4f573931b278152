/-
  PLAIN: the joined text cut at every space gives the words back, where no word holds a space.
-/
import Derived.Test.Qxb6603737aText
namespace Go.Proofs.Qxb6603737a

/-- where the j-th word begins in the joined text -/
def st (ss : List ByteArray) (j : Nat) : Nat := (jp ss j).length + (if j = 0 then 0 else 1)
def wlen (ss : List ByteArray) (j : Nat) : Nat := (str ss j).size

theorem st_succ (ss : List ByteArray) (j : Nat) : st ss (j + 1) = st ss j + wlen ss j + 1 := by
  have this : (str ss j).data.toList.length = (str ss j).size := by simp
  by_cases hj : j = 0
  · subst hj
    simp [st, jp, wlen]
  · simp only [st, jp, wlen, List.length_append, this, if_neg hj]
    simp
theorem jp_end (ss : List ByteArray) (j : Nat) : (jp ss (j + 1)).length = st ss j + wlen ss j := by
  have := st_succ ss j
  simp only [st] at this ⊢
  rw [if_neg (by omega : ¬ j + 1 = 0)] at this
  omega

theorem jp_split (ss : List ByteArray) {j n : Nat} (h : j < n) : ∃ rest, jp ss n = jp ss (j + 1) ++ rest ∧ (j + 1 = n → rest = []) ∧ (j + 1 < n → ∃ r, rest = 32 :: r) := by
  induction n with
  | zero => omega
  | succ n ih =>
    by_cases hj : j = n
    · subst hj
      exact ⟨[], by simp, fun _ => rfl, fun h => by omega⟩
    · obtain ⟨rest, h1, h2, h3⟩ := ih (by omega)
      refine ⟨rest ++ (32 :: (str ss n).data.toList), ?_, fun e => by omega, fun _ => ?_⟩
      · conv => lhs; unfold jp
        rw [h1, if_neg (by omega)]
        simp [List.append_assoc]
      · by_cases hn : j + 1 = n
        · rw [h2 hn]; exact ⟨_, rfl⟩
        · obtain ⟨r, hr⟩ := h3 (by omega)
          rw [hr]; exact ⟨_, rfl⟩

/-- the text around the j-th word -/
theorem jp_word (ss : List ByteArray) {j n : Nat} (h : j < n) : ∃ A rest, jp ss n = A ++ ((str ss j).data.toList ++ rest) ∧ A.length = st ss j ∧ (j + 1 = n → rest = []) ∧ (j + 1 < n → ∃ r, rest = 32 :: r) := by
  obtain ⟨rest, h1, h2, h3⟩ := jp_split ss h
  refine ⟨jp ss j ++ (if j = 0 then [] else [32]), rest, ?_, ?_, h2, h3⟩
  · rw [h1]
    simp [jp, List.append_assoc]
  · simp only [st, List.length_append]
    split <;> simp

theorem word_byte {ss : List ByteArray} {j n i : Nat} (h : j < n) (h1 : st ss j ≤ i) (h2 : i < st ss j + wlen ss j) : (jp ss n).getD i 0 = (str ss j).data.toList.getD (i - st ss j) 0 := by
  obtain ⟨A, rest, e, hA, _, _⟩ := jp_word ss h
  have hw : (str ss j).data.toList.length = wlen ss j := by simp [wlen]
  rw [e, List.getD_eq_getElem?_getD, List.getElem?_append_right (by omega), hA, List.getElem?_append_left (by omega), ← List.getD_eq_getElem?_getD]

theorem word_end {ss : List ByteArray} {j n : Nat} (h : j + 1 < n) : st ss j + wlen ss j < (jp ss n).length ∧ (jp ss n).getD (st ss j + wlen ss j) 0 = 32 := by
  obtain ⟨A, rest, e, hA, _, h3⟩ := jp_word ss (by omega : j < n)
  obtain ⟨r, hr⟩ := h3 h
  have hw : (str ss j).data.toList.length = wlen ss j := by simp [wlen]
  subst hr
  refine ⟨by rw [e]; simp only [List.length_append, List.length_cons]; omega, ?_⟩
  rw [e, List.getD_eq_getElem?_getD, List.getElem?_append_right (by omega), hA, List.getElem?_append_right (by omega)]
  rw [show st ss j + wlen ss j - st ss j - (str ss j).data.toList.length = 0 by omega]
  rfl

theorem word_last {ss : List ByteArray} {j n : Nat} (h : j + 1 = n) : (jp ss n).length = st ss j + wlen ss j := by
  subst h
  exact jp_end ss j

theorem word_le {ss : List ByteArray} {j n : Nat} (h : j < n) : st ss j + wlen ss j ≤ (jp ss n).length := by
  by_cases hj : j + 1 = n
  · rw [word_last hj]; exact Nat.le_refl _
  · have := (word_end (ss := ss) (by omega : j + 1 < n)).1
    omega

theorem word_cut {ss : List ByteArray} {j n : Nat} (h : j < n) (G : ByteArray) (hG : G.data.toList = jp ss n) : G.extract (st ss j) (st ss j + wlen ss j) = str ss j := by
  obtain ⟨A, rest, e, hA, _, _⟩ := jp_word ss h
  have hw : (str ss j).data.toList.length = wlen ss j := by simp [wlen]
  apply ByteArray.ext
  apply Array.toList_inj.1
  rw [ByteArray.data_extract, Array.toList_extract, hG, e]
  simp only [List.extract]
  rw [show st ss j + wlen ss j - st ss j = wlen ss j by omega, ← hA, List.drop_left, ← hw, List.take_left]

/-- no word among the first j holds a space -/
def NoSp (ss : List ByteArray) (j : Nat) : Prop := ∀ i, i < j → ∀ p, p < wlen ss i → (str ss i).data.toList.getD p 0 ≠ 32
end Go.Proofs.Qxb6603737a
