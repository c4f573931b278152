/-
  PLAIN: what Indent's loop has still to write; one lemma for each kind of byte.
-/
import Derived.Test.Qxb6603067aX2
import Derived.Test.Qxb6603067aJLaw
namespace Go.Proofs.Qxb6603067a
open Plain

theorem delim_eq (b : Int) : Go.Proofs.Qxb6603067a.delim b = Plain.delim b := rfl

/-- O is written, place i, level d: what follows makes T -/
def RunTo (c pre ind : List Int) (i d : Nat) (O T : List Int) : Prop := ∃ f R, irun c pre ind f i d = some R ∧ O ++ R = T

theorem RunTo.step {c pre ind : List Int} {i d : Nat} {O T : List Int} (h : RunTo c pre ind i d O T) (hi : i < c.length) : ∃ s, istep c pre ind i d = some s ∧ RunTo c pre ind s.i s.d (O ++ s.out) T := by
  obtain ⟨f, R, hr, hT⟩ := h
  unfold irun at hr
  rw [if_neg (by omega)] at hr
  cases f with
  | zero => cases hr
  | succ f =>
    simp only at hr
    cases hs : istep c pre ind i d with
    | none => rw [hs] at hr; cases hr
    | some s =>
      rw [hs] at hr
      simp only [Option.map_eq_some_iff] at hr
      obtain ⟨R', hr', rfl⟩ := hr
      exact ⟨s, rfl, f, R', hr', by rw [List.append_assoc]; exact hT⟩

theorem RunTo.to {c pre ind : List Int} {i d : Nat} {O T : List Int} (h : RunTo c pre ind i d O T) {i' d' : Nat} {O' : List Int} (hi : i' = i) (hd : d' = d) (e : O' = O) : RunTo c pre ind i' d' O' T := by
  subst hi hd e
  exact h

theorem RunTo.fin {c pre ind : List Int} {i d : Nat} {O T : List Int} (h : RunTo c pre ind i d O T) (hi : c.length ≤ i) : O = T := by
  obtain ⟨f, R, hr, hT⟩ := h
  rw [irun_end hi] at hr
  cases hr
  simpa using hT

theorem RunTo.len {c pre ind : List Int} {i d : Nat} {O T : List Int} (h : RunTo c pre ind i d O T) : O.length ≤ T.length := by
  obtain ⟨f, R, hr, hT⟩ := h
  rw [← hT, List.length_append]
  omega

theorem istep_quote {c pre ind : List Int} {i d : Nat} {s : IStep} (hb : c.getD i 0 = 34) (h : istep c pre ind i d = some s) : ∃ r, str c (i + 1) = some r ∧ s = ⟨i + 1 + r.n, d, 34 :: r.out⟩ := by
  unfold istep at h
  simp only [hb, if_true, Option.map_eq_some_iff] at h
  obtain ⟨r, h1, h2⟩ := h
  exact ⟨r, h1, h2.symm⟩

theorem istep_open {c pre ind : List Int} {i d : Nat} {s : IStep} (b : Int) (hb : c.getD i 0 = b) (hb2 : b = 123 ∨ b = 91) (h : istep c pre ind i d = some s) :
    i + 1 < c.length ∧ (((c.getD (i + 1) 0 = 125 ∨ c.getD (i + 1) 0 = 93) ∧ s = ⟨i + 2, d, [b, c.getD (i + 1) 0]⟩) ∨ ((c.getD (i + 1) 0 ≠ 125 ∧ c.getD (i + 1) 0 ≠ 93) ∧ s = ⟨i + 1, d + 1, b :: nl pre ind (d + 1)⟩)) := by
  unfold istep at h
  simp only [hb] at h
  rw [if_neg (by omega), if_pos hb2] at h
  split at h
  · rename_i hl
    refine ⟨hl, ?_⟩
    split at h
    · rename_i hq
      exact .inl ⟨hq, by cases h; rfl⟩
    · rename_i hq
      exact .inr ⟨by omega, by cases h; rfl⟩
  · cases h

theorem istep_close {c pre ind : List Int} {i d : Nat} {s : IStep} (b : Int) (hb : c.getD i 0 = b) (hb2 : b = 125 ∨ b = 93) (h : istep c pre ind i d = some s) : 1 ≤ d ∧ s = ⟨i + 1, d - 1, nl pre ind (d - 1) ++ [b]⟩ := by
  unfold istep at h
  simp only [hb] at h
  rw [if_neg (by omega), if_neg (by omega), if_pos hb2] at h
  split at h
  · rename_i hl
    exact ⟨hl, by cases h; rfl⟩
  · cases h

theorem istep_comma {c pre ind : List Int} {i d : Nat} {s : IStep} (hb : c.getD i 0 = 44) (h : istep c pre ind i d = some s) : s = ⟨i + 1, d, 44 :: nl pre ind d⟩ := by
  unfold istep at h
  simp only [hb] at h
  rw [if_neg (by omega), if_neg (by omega), if_neg (by omega), if_pos trivial] at h
  cases h; rfl

theorem istep_colon {c pre ind : List Int} {i d : Nat} {s : IStep} (hb : c.getD i 0 = 58) (h : istep c pre ind i d = some s) : s = ⟨i + 1, d, [58, 32]⟩ := by
  unfold istep at h
  simp only [hb] at h
  rw [if_neg (by omega), if_neg (by omega), if_neg (by omega), if_neg (by omega), if_pos trivial] at h
  cases h; rfl

theorem istep_tok {c pre ind : List Int} {i d : Nat} {s : IStep} (b : Int) (hb : c.getD i 0 = b) (h1 : b ≠ 34) (h2 : b ≠ 123) (h3 : b ≠ 91) (h4 : b ≠ 125) (h5 : b ≠ 93) (h6 : b ≠ 44) (h7 : b ≠ 58) (h : istep c pre ind i d = some s) :
    s = ⟨tokEnd c i, d, (c.drop i).take (tokEnd c i - i)⟩ := by
  unfold istep at h
  simp only [hb] at h
  rw [if_neg h1, if_neg (by omega), if_neg (by omega), if_neg h6, if_neg h7] at h
  cases h; rfl

/-- a string as layout.text writes it -/
theorem text_str {c : List Int} {I E : Nat} {r : Piece} (hb : c.getD I 0 = 34) (hs : str c (I + 1) = some r) (hE : I + 1 + r.n = E) (hI : I < c.length) : tl ((c.drop I).take (E - I)) 0 0 = 34 :: r.out := by
  have hp := str_pos hs
  have hlen : ((c.drop I).take (E - I)).length = E - I := by simp; omega
  have hg : ∀ i, i < ((c.drop I).take (E - I)).length → ((c.drop I).take (E - I)).getD i 0 = c.getD (I + i) 0 := by
    intro i hi
    rw [hlen] at hi
    simp [List.getD_eq_getElem?_getD, hi]
  have h0 : ((c.drop I).take (E - I)).getD 0 0 = 34 := by rw [hg 0 (by omega)]; exact hb
  rw [tl_plain (by rw [h0]; omega) (by omega), tl_str (I + 1) r hs _ I 0 1 rfl (by omega) hg (by omega)]
  have h1 := drop_take_succ (s := (c.drop I).take (E - I)) (f := 0) (j := 0) (Nat.le_refl _) (by omega)
  simp only [h0] at h1
  simp at h1 ⊢
  rw [h1]; rfl
end Go.Proofs.Qxb6603067a
