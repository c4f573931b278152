/-
  THE PLAIN LAW of layout.text: its loop over a string's bytes writes what the model's str writes.
-/
import Derived.Test.Qxb6603067aTWalk
namespace Go.Proofs.Qxb6603067a
open Plain

/-- what text's loop still appends -/
def tl (s : List Int) (frm i : Nat) : List Int :=
  if h : i < s.length then
    if s.getD i 0 ≠ 92 then tl s frm (i + 1)
    else if htmlE (s.drop i) ≠ 0 then (s.drop frm).take (i - frm) ++ [htmlE (s.drop i)] ++ tl s (i + 6) (i + 2)
    else tl s frm (i + 2)
  else s.drop frm
termination_by s.length - i

theorem tl_plain {s : List Int} {frm i : Nat} (h : s.getD i 0 ≠ 92) (hi : i < s.length) : tl s frm i = tl s frm (i + 1) := by
  rw [tl, dif_pos hi, if_pos h]
theorem tl_end {s : List Int} {frm i : Nat} (h : s.length ≤ i) : tl s frm i = s.drop frm := by
  rw [tl, dif_neg (by omega)]
theorem tl_html {s : List Int} {frm i : Nat} (h : s.getD i 0 = 92) (hi : i < s.length) (hh : htmlE (s.drop i) ≠ 0) : tl s frm i = (s.drop frm).take (i - frm) ++ [htmlE (s.drop i)] ++ tl s (i + 6) (i + 2) := by
  rw [tl, dif_pos hi, if_neg (by simp only [ne_eq, Decidable.not_not]; exact h), if_pos hh]
theorem tl_esc {s : List Int} {frm i : Nat} (h : s.getD i 0 = 92) (hi : i < s.length) (hh : htmlE (s.drop i) = 0) : tl s frm i = tl s frm (i + 2) := by
  rw [tl, dif_pos hi, if_neg (by simp only [ne_eq, Decidable.not_not]; exact h), if_neg (by simp [hh])]

theorem sstep_cases {c : List Int} {p : Nat} {s : SStep} (h : sstep c p = some s) :
    (c.getD p 0 = 34 ∧ s = ⟨true, 1, [34]⟩) ∨ (c.getD p 0 ≠ 34 ∧ c.getD p 0 ≠ 92 ∧ s = ⟨false, 1, [c.getD p 0]⟩) ∨
    (c.getD p 0 = 92 ∧ p + 1 < c.length ∧ esc1 (c.getD (p + 1) 0) = true ∧ s = ⟨false, 2, [92, c.getD (p + 1) 0]⟩) ∨
    (c.getD p 0 = 92 ∧ c.getD (p + 1) 0 = 117 ∧ p + 6 ≤ c.length ∧ (hex (c.getD (p + 2) 0) = true ∧ hex (c.getD (p + 3) 0) = true ∧ hex (c.getD (p + 4) 0) = true ∧ hex (c.getD (p + 5) 0) = true) ∧
      s = ⟨false, 6, if html (c.getD (p + 2) 0) (c.getD (p + 3) 0) (c.getD (p + 4) 0) (c.getD (p + 5) 0) = 0 then [92, 117, c.getD (p + 2) 0, c.getD (p + 3) 0, c.getD (p + 4) 0, c.getD (p + 5) 0] else [html (c.getD (p + 2) 0) (c.getD (p + 3) 0) (c.getD (p + 4) 0) (c.getD (p + 5) 0)]⟩) := by
  unfold sstep at h
  by_cases h0 : p < c.length
  · rw [if_pos h0] at h
    simp only at h
    split at h
    · rename_i h1
      cases h; exact .inl ⟨h1, rfl⟩
    · rename_i h1
      split at h
      · cases h
      · split at h
        · rename_i h2
          cases h; exact .inr (.inl ⟨h1, h2, rfl⟩)
        · rename_i h2
          have h2' : c.getD p 0 = 92 := by simpa using h2
          split at h
          · rename_i h3
            split at h
            · rename_i h4
              cases h; exact .inr (.inr (.inl ⟨h2', h3, h4, rfl⟩))
            · split at h
              · cases h
              · rename_i h5
                split at h
                · rename_i h6
                  split at h
                  · rename_i h7
                    simp only [Bool.and_eq_true] at h7
                    cases h; exact .inr (.inr (.inr ⟨h2', by simpa using h5, h6, ⟨h7.1.1.1, h7.1.1.2, h7.1.2, h7.2⟩, rfl⟩))
                  · cases h
                · cases h
          · cases h
  · rw [if_neg h0] at h; cases h

theorem drop_take_succ {s : List Int} {f j : Nat} (hf : f ≤ j) (hj : j < s.length) : (s.drop f).take (j + 1 - f) = (s.drop f).take (j - f) ++ [s.getD j 0] := by
  have e : j + 1 - f = (j - f) + 1 := by omega
  have hl : j - f < (s.drop f).length := by simp; omega
  rw [e, List.take_succ_eq_append_getElem hl]
  congr 2
  rw [List.getElem_drop, List.getD_eq_getElem?_getD, List.getElem?_eq_getElem hj]
  simp [show f + (j - f) = j by omega]

theorem htmlE_html {s : List Int} {j : Nat} (h6 : j + 6 ≤ s.length) (h0 : s.getD j 0 = 92) (h1 : s.getD (j + 1) 0 = 117) : htmlE (s.drop j) = html (s.getD (j + 2) 0) (s.getD (j + 3) 0) (s.getD (j + 4) 0) (s.getD (j + 5) 0) := by
  have e : ∀ k, k < 6 → (s.drop j)[k]? = some (s.getD (j + k) 0) := by
    intro k hk
    rw [List.getElem?_drop, List.getD_eq_getElem?_getD, List.getElem?_eq_getElem (by omega)]
    rfl
  obtain ⟨x0, x1, x2, x3, x4, x5, r, hr⟩ : ∃ x0 x1 x2 x3 x4 x5 r, s.drop j = x0 :: x1 :: x2 :: x3 :: x4 :: x5 :: r := by
    have hl : 6 ≤ (s.drop j).length := by simp; omega
    match hs : s.drop j with
    | x0 :: x1 :: x2 :: x3 :: x4 :: x5 :: r => exact ⟨_, _, _, _, _, _, _, rfl⟩
    | [] | [_] | [_, _] | [_, _, _] | [_, _, _, _] | [_, _, _, _, _] => rw [hs] at hl; simp at hl
  rw [hr] at e
  have e0 := e 0 (by omega); have e1 := e 1 (by omega); have e2 := e 2 (by omega); have e3 := e 3 (by omega); have e4 := e 4 (by omega); have e5 := e 5 (by omega)
  simp at e0 e1 e2 e3 e4 e5
  simp only [List.getD_eq_getElem?_getD] at h0 h1 ⊢
  rw [h0] at e0
  rw [h1] at e1
  rw [← e2, ← e3, ← e4, ← e5, hr, e0, e1]
  simp [htmlE, html]
  intro h
  omega

theorem hex_ne {b : Int} (h : hex b = true) : b ≠ 92 ∧ b ≠ 34 := by
  constructor <;> (rintro rfl; revert h; decide)

theorem esc1_ne {b : Int} (h : esc1 b = true) : b ≠ 117 := by
  rintro rfl; revert h; decide

theorem htmlE_no {s : List Int} {j : Nat} (h1 : s.getD (j + 1) 0 ≠ 117) : htmlE (s.drop j) = 0 := by
  unfold htmlE
  split
  · rfl
  · rename_i hl
    rw [if_neg]
    intro h
    apply h1
    have hj : j + 1 < s.length := by simp at hl; omega
    have : ((s.drop j).take 4)[1]? = some 117 := by rw [h]; rfl
    rw [List.getElem?_take_of_lt (by omega), List.getElem?_drop] at this
    rw [List.getD_eq_getElem?_getD, this]
    rfl

/-- THE LAW of text's loop: from the place j on, with s[frm..j) still to be written. -/
theorem tl_str {c : List Int} : ∀ p r, str c p = some r → ∀ (s : List Int) (a frm j : Nat), p = a + j → j + r.n = s.length → (∀ i, i < s.length → s.getD i 0 = c.getD (a + i) 0) → frm ≤ j →
    tl s frm j = (s.drop frm).take (j - frm) ++ r.out := by
  refine str_ind (motive := fun p r => ∀ (s : List Int) (a frm j : Nat), p = a + j → j + r.n = s.length → (∀ i, i < s.length → s.getD i 0 = c.getD (a + i) 0) → frm ≤ j → tl s frm j = (s.drop frm).take (j - frm) ++ r.out) ?_ ?_
  · intro p st hs hfin s a frm j hp hl hg hf
    rcases sstep_cases hs with ⟨h1, rfl⟩ | ⟨_, _, rfl⟩ | ⟨_, _, _, rfl⟩ | ⟨_, _, _, _, rfl⟩
    · simp only at hl
      have hc : s.getD j 0 = 34 := by rw [hg j (by omega), ← hp, h1]
      rw [tl_plain (by rw [hc]; decide) (by omega), tl_end (by omega)]
      have := drop_take_succ (s := s) (f := frm) (j := j) hf (by omega)
      rw [hc] at this
      rw [← this, List.take_of_length_le (by simp; omega)]
    · simp at hfin
    · simp at hfin
    · simp at hfin
  · intro p st r hs hfin ih s a frm j hp hl hg hf
    rcases sstep_cases hs with ⟨h1, rfl⟩ | ⟨h1, h2, rfl⟩ | ⟨h1, h2, h3, rfl⟩ | ⟨h1, h2, h3, ⟨x2, x3, x4, x5⟩, rfl⟩
    · simp at hfin
    · simp only [Piece.more] at hl ih ⊢
      have hc : s.getD j 0 = c.getD p 0 := by rw [hg j (by omega), ← hp]
      rw [tl_plain (by rw [hc]; exact h2) (by omega), ih s a frm (j + 1) (by omega) (by omega) hg (by omega), drop_take_succ hf (by omega), hc, List.append_assoc]
    · simp only [Piece.more] at hl ih ⊢
      have hc : s.getD j 0 = 92 := by rw [hg j (by omega), ← hp, h1]
      have hc1 : s.getD (j + 1) 0 = c.getD (p + 1) 0 := by rw [hg (j + 1) (by omega), hp, Nat.add_assoc]
      rw [tl_esc hc (by omega) (htmlE_no (by rw [hc1]; exact esc1_ne h3)), ih s a frm (j + 2) (by omega) (by omega) hg (by omega), drop_take_succ (j := j + 1) (by omega) (by omega), drop_take_succ hf (by omega), hc, hc1]
      simp
    · simp only [Piece.more] at hl ih ⊢
      have hc : s.getD j 0 = 92 := by rw [hg j (by omega), ← hp, h1]
      have hck : ∀ k, k < 6 → s.getD (j + k) 0 = c.getD (p + k) 0 := fun k hk => by rw [hg (j + k) (by omega), hp, Nat.add_assoc]
      have hh := htmlE_html (s := s) (j := j) (by omega) hc (by rw [hck 1 (by omega), h2])
      rw [hck 2 (by omega), hck 3 (by omega), hck 4 (by omega), hck 5 (by omega)] at hh
      have skip : ∀ f, tl s f (j + 2) = tl s f (j + 6) := by
        intro f
        rw [tl_plain (i := j + 2) (by rw [hck 2 (by omega)]; exact (hex_ne x2).1) (by omega), tl_plain (i := j + 3) (by rw [hck 3 (by omega)]; exact (hex_ne x3).1) (by omega),
          tl_plain (i := j + 4) (by rw [hck 4 (by omega)]; exact (hex_ne x4).1) (by omega), tl_plain (i := j + 5) (by rw [hck 5 (by omega)]; exact (hex_ne x5).1) (by omega)]
      by_cases h0 : html (c.getD (p + 2) 0) (c.getD (p + 3) 0) (c.getD (p + 4) 0) (c.getD (p + 5) 0) = 0
      · rw [tl_esc hc (by omega) (by rw [hh, h0]), skip, ih s a frm (j + 6) (by omega) (by omega) hg (by omega), if_pos h0,
          drop_take_succ (j := j + 5) (by omega) (by omega), drop_take_succ (j := j + 4) (by omega) (by omega), drop_take_succ (j := j + 3) (by omega) (by omega), drop_take_succ (j := j + 2) (by omega) (by omega), drop_take_succ (j := j + 1) (by omega) (by omega), drop_take_succ hf (by omega),
          hc, hck 1 (by omega), hck 2 (by omega), hck 3 (by omega), hck 4 (by omega), hck 5 (by omega), h2]
        simp
      · rw [tl_html hc (by omega) (by rw [hh]; exact h0), skip, ih s a (j + 6) (j + 6) (by omega) (by omega) hg (Nat.le_refl _), if_neg h0, hh]
        simp

theorem tl_none {s : List Int} (h : ∀ i, i < s.length → s.getD i 0 ≠ 92) (frm : Nat) : ∀ k i, s.length - i = k → tl s frm i = s.drop frm := by
  intro k
  induction k with
  | zero => intro i hi; exact tl_end (by omega)
  | succ k ih => intro i hi; rw [tl_plain (h i (by omega)) (by omega)]; exact ih (i + 1) (by omega)

/-- A string that is open at i ends ahead of E: k hexadecimal digits are left of an escape, behind them str goes on. -/
def EndsAt (c : List Int) (i E : Nat) : Prop := ∃ k, (∀ j, j < k → hex (c.getD (i + j) 0) = true) ∧ ∃ r, str c (i + k) = some r ∧ i + k + r.n = E

theorem EndsAt.lt {c : List Int} {i E : Nat} (h : EndsAt c i E) : i < E ∧ E ≤ c.length := by
  obtain ⟨k, _, r, hr, he⟩ := h
  have := str_pos hr
  omega

theorem EndsAt.step {c : List Int} {i E : Nat} (h : EndsAt c i E) :
    (c.getD i 0 = 34 ∧ E = i + 1) ∨ (c.getD i 0 ≠ 34 ∧ c.getD i 0 ≠ 92 ∧ EndsAt c (i + 1) E) ∨ (c.getD i 0 = 92 ∧ EndsAt c (i + 2) E) := by
  obtain ⟨k, hx, r, hr, he⟩ := h
  cases k with
  | succ k =>
    have h0 := hx 0 (by omega)
    have := hex_ne h0
    refine .inr (.inl ⟨this.2, this.1, k, fun j hj => ?_, r, ?_, by omega⟩)
    · have := hx (j + 1) (by omega)
      rw [show i + 1 + j = i + (j + 1) by omega]
      exact this
    · rw [show i + 1 + k = i + (k + 1) by omega]
      exact hr
  | zero =>
    rw [Nat.add_zero, str_eq] at hr
    cases hs : sstep c i with
    | none => rw [hs] at hr; cases hr
    | some st =>
      rw [hs] at hr
      rcases sstep_cases hs with ⟨h1, rfl⟩ | ⟨h1, h2, rfl⟩ | ⟨h1, h2, h3, rfl⟩ | ⟨h1, h2, h3, ⟨x2, x3, x4, x5⟩, rfl⟩
      · simp only [if_true, Option.some.injEq] at hr
        subst hr
        simp only at he
        exact .inl ⟨h1, by omega⟩
      all_goals
        simp only [Bool.false_eq_true, if_false, Option.map_eq_some_iff] at hr
        obtain ⟨r', hr', rfl⟩ := hr
        simp only [Piece.more] at he
      · exact .inr (.inl ⟨h1, h2, 0, fun j hj => absurd hj (by omega), r', hr', by omega⟩)
      · exact .inr (.inr ⟨h1, 0, fun j hj => absurd hj (by omega), r', hr', by omega⟩)
      · refine .inr (.inr ⟨h1, 4, fun j hj => ?_, r', ?_, by omega⟩)
        · rcases (show j = 0 ∨ j = 1 ∨ j = 2 ∨ j = 3 by omega) with rfl | rfl | rfl | rfl
          · exact x2
          · exact x3
          · exact x4
          · exact x5
        · exact hr'
end Go.Proofs.Qxb6603067a
