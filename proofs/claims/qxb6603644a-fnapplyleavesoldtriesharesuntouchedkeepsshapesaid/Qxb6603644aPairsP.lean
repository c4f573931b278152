/-
  PLAIN: a merge sort from below, by id.
-/
import Derived.Test.Qxb6603644aModel
namespace Go.Proofs.Qxb6603644a

abbrev Pr := ByteArray × Int
instance : Inhabited Pr := ⟨(ByteArray.empty, 0)⟩
def prLess (p q : Pr) : Bool := Op.bytesLess p.1.toList q.1.toList
theorem prLess_iff (p q : Pr) : prLess p q = true ↔ p.1.data.toList < q.1.data.toList := by
  unfold prLess
  rw [Lib.toList_data, Lib.toList_data, bl_lt]
def mrg : List Pr → List Pr → List Pr
  | [], ys => ys
  | x :: xs, [] => x :: xs
  | x :: xs, y :: ys => if prLess y x = true then y :: mrg (x :: xs) ys else x :: mrg xs (y :: ys)
termination_by l m => l.length + m.length
theorem mrg_nil_right (l : List Pr) : mrg l [] = l := by cases l <;> simp [mrg]
theorem mrg_nil_left (l : List Pr) : mrg [] l = l := by simp [mrg]
theorem mrg_perm : ∀ l m : List Pr, (mrg l m).Perm (l ++ m)
  | [], ys => by simp [mrg]
  | x :: xs, [] => by simp [mrg]
  | x :: xs, y :: ys => by
    rw [mrg]
    split
    · exact ((mrg_perm (x :: xs) ys).cons y).trans List.perm_middle.symm
    · exact (mrg_perm xs (y :: ys)).cons x
termination_by l m => l.length + m.length
def PLe (p q : Pr) : Prop := ¬ q.1.data.toList < p.1.data.toList
theorem PLe.trans {p q r : Pr} (h : PLe p q) (k : PLe q r) : PLe p r := by
  unfold PLe at *
  exact List.not_lt.2 (List.le_trans (List.not_lt.1 h) (List.not_lt.1 k))
def Srt (l : List Pr) : Prop := l.Pairwise PLe
theorem mrg_srt : ∀ l m : List Pr, Srt l → Srt m → Srt (mrg l m)
  | [], ys, _, h => by simpa [mrg] using h
  | x :: xs, [], h, _ => by simpa [mrg] using h
  | x :: xs, y :: ys, hl, hm => by
    obtain ⟨hx, hxs⟩ := List.pairwise_cons.1 hl
    obtain ⟨hy, hys⟩ := List.pairwise_cons.1 hm
    rw [mrg]
    split
    · rename_i hlt
      rw [prLess_iff] at hlt
      refine List.pairwise_cons.2 ⟨fun z hz => ?_, mrg_srt (x :: xs) ys hl hys⟩
      have hyx : PLe y x := List.not_lt.2 (List.le_of_lt hlt)
      rcases List.mem_append.1 ((mrg_perm _ _).mem_iff.1 hz) with h | h
      · rcases List.mem_cons.1 h with rfl | h
        · exact hyx
        · exact hyx.trans (hx _ h)
      · exact hy _ h
    · rename_i hlt
      rw [prLess_iff] at hlt
      refine List.pairwise_cons.2 ⟨fun z hz => ?_, mrg_srt xs (y :: ys) hxs hm⟩
      rcases List.mem_append.1 ((mrg_perm _ _).mem_iff.1 hz) with h | h
      · exact hx _ h
      · rcases List.mem_cons.1 h with rfl | h
        · exact hlt
        · exact PLe.trans hlt (hy _ h)
termination_by l m => l.length + m.length
theorem mrg_length (l m : List Pr) : (mrg l m).length = l.length + m.length := by rw [(mrg_perm l m).length_eq, List.length_append]

/-- one pass: neighbours of width v merged -/
def pass (v : Nat) (xs : List Pr) : List Pr :=
  if _h : xs = [] ∨ v = 0 then xs else mrg (xs.take v) ((xs.drop v).take v) ++ pass v (xs.drop (2 * v))
termination_by xs.length
decreasing_by
  have h1 : xs.length ≠ 0 := fun e => _h (.inl (List.length_eq_zero_iff.1 e))
  have h2 : v ≠ 0 := fun e => _h (.inr e)
  simp only [List.length_drop]
  omega
theorem pass_nil (v : Nat) : pass v [] = [] := by rw [pass, dif_pos (.inl rfl)]
theorem pass_cons {v : Nat} {xs : List Pr} (h : xs ≠ []) (hv : 0 < v) : pass v xs = mrg (xs.take v) ((xs.drop v).take v) ++ pass v (xs.drop (2 * v)) := by
  rw [pass, dif_neg (by simp [h]; omega)]
theorem pass_perm (v : Nat) (hv : 0 < v) : ∀ (m : Nat) (xs : List Pr), xs.length ≤ m → (pass v xs).Perm xs := by
  intro m
  induction m with
  | zero =>
    intro xs h
    obtain rfl : xs = [] := List.length_eq_zero_iff.1 (by omega)
    rw [pass_nil]
  | succ m ih =>
    intro xs h
    by_cases e : xs = []
    · subst e; rw [pass_nil]
    · rw [pass_cons e hv]
      have h1 : xs.length ≠ 0 := fun e' => e (List.length_eq_zero_iff.1 e')
      have h2 := ih (xs.drop (2 * v)) (by simp only [List.length_drop]; omega)
      have h3 := (mrg_perm (xs.take v) ((xs.drop v).take v)).append h2
      have h4 : xs.take v ++ (xs.drop v).take v ++ xs.drop (2 * v) = xs := by
        rw [List.append_assoc, show xs.drop (2 * v) = (xs.drop v).drop v by rw [List.drop_drop]; congr 1; omega, List.take_append_drop, List.take_append_drop]
      rw [h4] at h3
      exact h3
def Chunk (v : Nat) (xs : List Pr) : Prop := ∀ i, Srt ((xs.drop (i * v)).take v)
theorem pass_chunk (v : Nat) (hv : 0 < v) : ∀ (m : Nat) (xs : List Pr), xs.length ≤ m → Chunk v xs → Chunk (v * 2) (pass v xs) := by
  intro m
  induction m with
  | zero =>
    intro xs h _ i
    obtain rfl : xs = [] := List.length_eq_zero_iff.1 (by omega)
    rw [pass_nil]
    simp [Srt]
  | succ m ih =>
    intro xs h hc i
    by_cases e : xs = []
    · subst e; rw [pass_nil]; simp [Srt]
    · rw [pass_cons e hv]
      have h1 : xs.length ≠ 0 := fun e' => e (List.length_eq_zero_iff.1 e')
      have hc' : Chunk v (xs.drop (2 * v)) := fun i => by
        have := hc (i + 2)
        rw [List.drop_drop, show 2 * v + i * v = (i + 2) * v by rw [Nat.add_mul]; omega]
        exact this
      have h2 := ih (xs.drop (2 * v)) (by simp only [List.length_drop]; omega) hc'
      have hM : Srt (mrg (xs.take v) ((xs.drop v).take v)) := by
        refine mrg_srt _ _ ?_ ?_
        · have := hc 0
          rw [Nat.zero_mul, List.drop_zero] at this
          exact this
        · have := hc 1
          rw [Nat.one_mul] at this
          exact this
      have hlM := mrg_length (xs.take v) ((xs.drop v).take v)
      simp only [List.length_take, List.length_drop] at hlM
      obtain ⟨M, hMe⟩ : ∃ M, mrg (xs.take v) ((xs.drop v).take v) = M := ⟨_, rfl⟩
      rw [hMe] at hM hlM ⊢
      by_cases hl : 2 * v ≤ xs.length
      · have hlm : M.length = v * 2 := by omega
        cases i with
        | zero =>
          rw [Nat.zero_mul, List.drop_zero, ← hlm, List.take_left]
          exact hM
        | succ i =>
          rw [Nat.add_mul, Nat.one_mul, Nat.add_comm, ← List.drop_drop, ← hlm, List.drop_left, hlm]
          exact h2 i
      · rw [show xs.drop (2 * v) = [] from List.drop_eq_nil_of_le (by omega), pass_nil, List.append_nil]
        exact hM.sublist ((List.take_sublist _ _).trans (List.drop_sublist _ _))
theorem chunk_one (xs : List Pr) : Chunk 1 xs := fun i => by
  cases h : xs.drop (i * 1) with
  | nil => simp [Srt]
  | cons x l => simp [Srt]
theorem chunk_srt {v : Nat} {xs : List Pr} (h : Chunk v xs) (hv : xs.length ≤ v) : Srt xs := by
  have := h 0
  rw [Nat.zero_mul, List.drop_zero, List.take_of_length_le hv] at this
  exact this

/-- the list from i up to m -/
def sgm (xs : List Pr) (i m : Nat) : List Pr := (xs.drop i).take (m - i)
def pAt (xs : List Pr) (i : Nat) : Pr := xs.getD i default
theorem pAt_eq {xs : List Pr} {i : Nat} (h : i < xs.length) : pAt xs i = xs[i] := by
  unfold pAt
  rw [List.getD_eq_getElem?_getD, List.getElem?_eq_getElem h]
  rfl
theorem sgm_cons {xs : List Pr} {i m : Nat} (h : i < m) (hm : m ≤ xs.length) : sgm xs i m = pAt xs i :: sgm xs (i + 1) m := by
  unfold sgm
  rw [List.drop_eq_getElem_cons (show i < xs.length by omega), pAt_eq (show i < xs.length by omega), show m - i = (m - (i + 1)) + 1 by omega, List.take_succ_cons]
theorem sgm_nil (xs : List Pr) (i : Nat) : sgm xs i i = [] := by simp [sgm]
/-- the merge at work: target = what lies below hi at the end -/
structure Mg (xs ys tgt : List Pr) (lo mid hi i j k : Nat) : Prop where
  le : lo ≤ i ∧ i ≤ mid ∧ mid ≤ j ∧ j ≤ hi ∧ hi ≤ xs.length ∧ ys.length = xs.length
  kk : k + mid = i + j
  eq : ys.take k ++ mrg (sgm xs i mid) (sgm xs j hi) = tgt
theorem take_set {ys : List Pr} {k : Nat} (x : Pr) (h : k < ys.length) : (ys.set k x).take (k + 1) = ys.take k ++ [x] := by
  rw [List.take_add_one, List.getElem?_set_self h, List.take_set_of_le (Nat.le_refl _)]
  rfl
theorem Mg.lt {xs ys tgt : List Pr} {lo mid hi i j k : Nat} (h : Mg xs ys tgt lo mid hi i j k) (hh : i < mid ∨ j < hi) : k < ys.length := by
  have := h.le; have := h.kk; omega
theorem Mg.right {xs ys tgt : List Pr} {lo mid hi i j k : Nat} (h : Mg xs ys tgt lo mid hi i j k) (hi' : i < mid) (hj : j < hi) (hl : prLess (pAt xs j) (pAt xs i) = true) : Mg xs (ys.set k (pAt xs j)) tgt lo mid hi i (j + 1) (k + 1) := by
  have h1 := h.le
  have h2 := h.kk
  refine ⟨by rw [List.length_set]; omega, by omega, ?_⟩
  rw [take_set _ (h.lt (.inl hi')), ← h.eq, sgm_cons hi' (by omega), sgm_cons (xs := xs) hj (by omega), mrg, if_pos hl]
  simp
theorem Mg.left {xs ys tgt : List Pr} {lo mid hi i j k : Nat} (h : Mg xs ys tgt lo mid hi i j k) (hi' : i < mid) (hj : j < hi) (hl : prLess (pAt xs j) (pAt xs i) = false) : Mg xs (ys.set k (pAt xs i)) tgt lo mid hi (i + 1) j (k + 1) := by
  have h1 := h.le
  have h2 := h.kk
  refine ⟨by rw [List.length_set]; omega, by omega, ?_⟩
  rw [take_set _ (h.lt (.inl hi')), ← h.eq, sgm_cons hi' (by omega), sgm_cons (xs := xs) hj (by omega), mrg, if_neg (by simp [hl])]
  simp
theorem Mg.left' {xs ys tgt : List Pr} {lo mid hi i k : Nat} (h : Mg xs ys tgt lo mid hi i hi k) (hi' : i < mid) : Mg xs (ys.set k (pAt xs i)) tgt lo mid hi (i + 1) hi (k + 1) := by
  have h1 := h.le
  have h2 := h.kk
  refine ⟨by rw [List.length_set]; omega, by omega, ?_⟩
  rw [take_set _ (h.lt (.inl hi')), ← h.eq, sgm_cons hi' (by omega), sgm_nil, mrg_nil_right, mrg_nil_right]
  simp
theorem Mg.right' {xs ys tgt : List Pr} {lo mid hi j k : Nat} (h : Mg xs ys tgt lo mid hi mid j k) (hj : j < hi) : Mg xs (ys.set k (pAt xs j)) tgt lo mid hi mid (j + 1) (k + 1) := by
  have h1 := h.le
  have h2 := h.kk
  refine ⟨by rw [List.length_set]; omega, by omega, ?_⟩
  rw [take_set _ (h.lt (.inr hj)), ← h.eq, sgm_nil, sgm_cons hj (by omega), mrg_nil_left, mrg_nil_left]
  simp
/-- a pass at work -/
structure Ps (v : Nat) (xs ys : List Pr) (lo : Nat) : Prop where
  len : ys.length = xs.length
  eq : ys.take lo ++ pass v (xs.drop lo) = pass v xs
theorem Ps.start {v : Nat} {xs ys : List Pr} (h : ys.length = xs.length) : Ps v xs ys 0 := ⟨h, by simp⟩
theorem Ps.fin {v : Nat} {xs ys : List Pr} {lo : Nat} (h : Ps v xs ys lo) (hlo : xs.length ≤ lo) : ys = pass v xs := by
  have := h.eq
  rw [List.drop_eq_nil_of_le hlo, pass_nil, List.append_nil, List.take_of_length_le (by rw [h.len]; exact hlo)] at this
  exact this
theorem sgm_take {xs : List Pr} {lo v mid : Nat} (hm : mid = min (lo + v) xs.length) : sgm xs lo mid = (xs.drop lo).take v := by
  subst hm
  unfold sgm
  by_cases h : lo + v ≤ xs.length
  · rw [Nat.min_eq_left h, Nat.add_sub_cancel_left]
  · rw [Nat.min_eq_right (by omega), List.take_of_length_le (by simp), List.take_of_length_le (by simp; omega)]
theorem Ps.enter {v : Nat} {xs ys : List Pr} {lo mid hi : Nat} (h : Ps v xs ys lo) (hlo : lo < xs.length) (hm : mid = min (lo + v) xs.length) (hh : hi = min (lo + 2 * v) xs.length) :
    Mg xs ys (ys.take lo ++ mrg (sgm xs lo mid) (sgm xs mid hi)) lo mid hi lo mid lo := ⟨by have := h.len; omega, by omega, rfl⟩
theorem Ps.next {v : Nat} {xs ys ys' : List Pr} {lo mid hi k : Nat} (hv : 0 < v) (h : Ps v xs ys lo) (hlo : lo < xs.length) (hm : mid = min (lo + v) xs.length) (hh : hi = min (lo + 2 * v) xs.length)
    (hg : Mg xs ys' (ys.take lo ++ mrg (sgm xs lo mid) (sgm xs mid hi)) lo mid hi mid hi k) : Ps v xs ys' (lo + 2 * v) := by
  have h1 := hg.le
  have h2 := hg.kk
  obtain rfl : k = hi := by omega
  refine ⟨h1.2.2.2.2.2, ?_⟩
  have he := hg.eq
  rw [sgm_nil, sgm_nil, mrg_nil_left, List.append_nil] at he
  have htake : ys'.take (lo + 2 * v) = ys'.take k := by
    by_cases hc : lo + 2 * v ≤ xs.length
    · rw [hh, Nat.min_eq_left hc]
    · rw [hh, Nat.min_eq_right (by omega), List.take_of_length_le (by omega), List.take_of_length_le (by omega)]
  have hseg2 : sgm xs mid k = (xs.drop (lo + v)).take v := by
    by_cases hc : lo + v ≤ xs.length
    · rw [hm, Nat.min_eq_left hc]
      exact sgm_take (by rw [hh]; congr 1; omega)
    · rw [hm, Nat.min_eq_right (by omega), hh, Nat.min_eq_right (by omega), sgm_nil, List.drop_eq_nil_of_le (by omega)]
      exact List.take_nil.symm
  rw [htake, he, sgm_take hm, hseg2, ← h.eq, pass_cons (xs := xs.drop lo) (by intro e; have := congrArg List.length e; simp at this; omega) hv, List.drop_drop, List.drop_drop, List.append_assoc]
end Go.Proofs.Qxb6603644a
