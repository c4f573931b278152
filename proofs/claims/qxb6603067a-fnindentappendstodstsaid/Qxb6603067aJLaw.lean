/-
  THE PLAIN LAW of Indent, second part: Indent's own loop writes what the model writes.
-/
import Derived.Test.Qxb6603067aJPlain
namespace Go.Proofs.Qxb6603067a.Plain

/-! ### Indent's own loop, on what is well formed -/
def delim (b : Int) : Bool := b == 44 || b == 125 || b == 93
def tokEnd (c : List Int) (i : Nat) : Nat := i + 1 + ((c.drop (i + 1)).takeWhile (fun b => !delim b)).length

structure IStep where
  i : Nat
  d : Nat
  out : List Int

def istep (c pre ind : List Int) (i d : Nat) : Option IStep :=
  let b := c.getD i 0
  if b = 34 then (str c (i + 1)).map fun r => ⟨i + 1 + r.n, d, 34 :: r.out⟩
  else if b = 123 ∨ b = 91 then
    if i + 1 < c.length then
      if c.getD (i + 1) 0 = 125 ∨ c.getD (i + 1) 0 = 93 then some ⟨i + 2, d, [b, c.getD (i + 1) 0]⟩
      else some ⟨i + 1, d + 1, b :: nl pre ind (d + 1)⟩
    else none
  else if b = 125 ∨ b = 93 then (if 1 ≤ d then some ⟨i + 1, d - 1, nl pre ind (d - 1) ++ [b]⟩ else none)
  else if b = 44 then some ⟨i + 1, d, 44 :: nl pre ind d⟩
  else if b = 58 then some ⟨i + 1, d, [58, 32]⟩
  else some ⟨tokEnd c i, d, (c.drop i).take (tokEnd c i - i)⟩

def irun (c pre ind : List Int) : Nat → Nat → Nat → Option (List Int)
  | f, i, d => if c.length ≤ i then some [] else match f with
    | 0 => none
    | f + 1 => match istep c pre ind i d with
      | none => none
      | some s => (irun c pre ind f s.i s.d).map fun r => s.out ++ r

theorem irun_step {c pre ind : List Int} {i d : Nat} {s : IStep} (hi : i < c.length) (hs : istep c pre ind i d = some s) {f : Nat} {rest : List Int} (h : irun c pre ind f s.i s.d = some rest) :
    irun c pre ind (f + 1) i d = some (s.out ++ rest) := by
  unfold irun
  rw [if_neg (by omega)]
  simp only [hs, h, Option.map_some]

theorem irun_end {c pre ind : List Int} {i d : Nat} (hi : c.length ≤ i) (f : Nat) : irun c pre ind f i d = some [] := by
  unfold irun
  rw [if_pos hi]

/-- what stands behind a number or a word -/
def Follow (c : List Int) (p : Nat) : Prop := c.length ≤ p ∨ delim (c.getD p 0) = true

theorem isAt_iff (c : List Int) (p : Nat) (b : Int) : isAt c p b = true ↔ p < c.length ∧ c.getD p 0 = b := by simp [isAt]

/-- a token that holds no delimiter, up to what follows -/
theorem tokEnd_of {c : List Int} {i e : Nat} (hie : i < e) (he : e ≤ c.length) (hno : ∀ k, i < k → k < e → delim (c.getD k 0) = false) (hf : Follow c e) : tokEnd c i = e := by
  have key : ∀ (n : Nat) (l : List Int), n ≤ l.length → (∀ k, k < n → delim (l.getD k 0) = false) → (n = l.length ∨ delim (l.getD n 0) = true) → (l.takeWhile (fun b => !delim b)).length = n := by
    intro n
    induction n with
    | zero =>
      intro l _ _ h
      cases l with
      | nil => simp
      | cons x xs =>
        rcases h with h | h
        · simp at h
        · simp at h; simp [h]
    | succ n ih =>
      intro l hl hk h
      cases l with
      | nil => simp at hl
      | cons x xs =>
        have h0 := hk 0 (by omega)
        simp at h0
        simp [h0]
        exact ih xs (by simpa using hl) (fun k hk' => by simpa using hk (k + 1) (by omega)) (by simpa using h)
  unfold tokEnd
  rw [key (e - (i + 1)) (c.drop (i + 1)) (by simp; omega)]
  · omega
  · intro k hk
    rw [show (c.drop (i + 1)).getD k 0 = c.getD (i + 1 + k) 0 by simp [List.getD_eq_getElem?_getD]]
    exact hno _ (by omega) (by omega)
  · rw [show (c.drop (i + 1)).getD (e - (i + 1)) 0 = c.getD e 0 by simp [List.getD_eq_getElem?_getD]; rw [show i + 1 + (e - (i + 1)) = e by omega]]
    rcases hf with h | h
    · left; simp; omega
    · right; exact h

/-! ### the bytes of a number -/
/-- the bytes that a number is made of -/
def numB (b : Int) : Bool := dg b || b == 45 || b == 43 || b == 46 || b == 101 || b == 69
theorem numB_of_dg {b : Int} (h : dg b = true) : numB b = true := by unfold numB; rw [h]; rfl
theorem numB_delim {b : Int} (h : numB b = true) : delim b = false ∧ b ≠ 34 ∧ b ≠ 123 ∧ b ≠ 91 ∧ b ≠ 125 ∧ b ≠ 93 ∧ b ≠ 44 ∧ b ≠ 58 := by
  simp only [numB, dg, Bool.or_eq_true, Bool.and_eq_true, decide_eq_true_eq, beq_iff_eq] at h
  have hr : (48 ≤ b ∧ b ≤ 57) ∨ b = 45 ∨ b = 43 ∨ b = 46 ∨ b = 101 ∨ b = 69 := by omega
  refine ⟨?_, by omega, by omega, by omega, by omega, by omega, by omega, by omega⟩
  simp only [delim, Bool.or_eq_false_iff, beq_eq_false_iff_ne]
  omega

/-- from p to e every byte is one of a number's -/
def NumRun (c : List Int) (p e : Nat) : Prop := p ≤ e ∧ e ≤ c.length ∧ ∀ k, p ≤ k → k < e → numB (c.getD k 0) = true
theorem NumRun.nil {c : List Int} {p : Nat} (h : p ≤ c.length) : NumRun c p p := ⟨Nat.le_refl _, h, fun k h1 h2 => by omega⟩
theorem NumRun.trans {c : List Int} {p q e : Nat} (h1 : NumRun c p q) (h2 : NumRun c q e) : NumRun c p e :=
  ⟨Nat.le_trans h1.1 h2.1, h2.2.1, fun k hk hk' => by
    by_cases h : k < q
    · exact h1.2.2 k hk h
    · exact h2.2.2 k (by omega) hk'⟩
theorem NumRun.one {c : List Int} {p : Nat} (h : p < c.length) (hb : numB (c.getD p 0) = true) : NumRun c p (p + 1) :=
  ⟨by omega, by omega, fun k h1 h2 => by rw [show k = p by omega]; exact hb⟩

theorem numRun_dend {c : List Int} {p : Nat} (h : p ≤ c.length) : NumRun c p (dend c p) := by
  unfold dend
  have hle : (digs (c.drop p)).length ≤ (c.drop p).length := List.Sublist.length_le (List.takeWhile_sublist _)
  refine ⟨by omega, by simp at hle; omega, fun k h1 h2 => ?_⟩
  have hdig : ∀ (l : List Int) (j : Nat), j < (digs l).length → dg (l.getD j 0) = true := by
    intro l
    induction l with
    | nil => intro j hj; simp [digs] at hj
    | cons x xs ih =>
      intro j hj
      cases hx : dg x
      · rw [digs_no hx] at hj; simp at hj
      · rw [digs_yes hx] at hj
        cases j with
        | zero => simpa using hx
        | succ j => simpa using ih j (by simpa using hj)
  have := hdig (c.drop p) (k - p) (by omega)
  rw [show (c.drop p).getD (k - p) 0 = c.getD k 0 by simp [List.getD_eq_getElem?_getD]; rw [show p + (k - p) = k by omega]] at this
  exact numB_of_dg this

theorem isD_iff (c : List Int) (p : Nat) : isD c p = true ↔ p < c.length ∧ dg (c.getD p 0) = true := by simp [isD]

theorem numEnd_run {c : List Int} {p e : Nat} (hp : p < c.length) (h : numEnd c p = some e) : NumRun c p e ∧ p < e := by
  unfold numEnd at h
  split at h
  · rename_i hd
    obtain ⟨hd1, hd2⟩ := (isD_iff _ _).1 hd
    have hs : NumRun c p (sign c p) := by
      unfold sign
      split
      · rename_i h45
        exact NumRun.one hp (by rw [h45]; rfl)
      · exact NumRun.nil (by omega)
    have hint : NumRun c (sign c p) (intEnd c (sign c p)) ∧ sign c p < intEnd c (sign c p) := by
      unfold intEnd
      split
      · exact ⟨NumRun.one hd1 (numB_of_dg hd2), by omega⟩
      · refine ⟨numRun_dend (by omega), ?_⟩
        unfold dend
        rw [List.drop_eq_getElem_cons hd1]
        have : dg c[sign c p] = true := by
          have := hd2
          simpa [hd1] using this
        rw [digs_yes this]
        simp
    cases hfr : fracEnd c (intEnd c (sign c p)) with
    | none => rw [hfr] at h; simp at h
    | some q =>
      rw [hfr] at h
      simp only [Option.bind_some] at h
      have hq : NumRun c (intEnd c (sign c p)) q := by
        unfold fracEnd at hfr
        split at hfr
        · rename_i h46
          obtain ⟨h1, h2⟩ := (isAt_iff _ _ _).1 h46
          split at hfr
          · cases hfr
            exact (NumRun.one h1 (by rw [h2]; rfl)).trans (numRun_dend (by omega))
          · cases hfr
        · cases hfr
          exact NumRun.nil hint.1.2.1
      have he : NumRun c q e := by
        unfold expEnd at h
        split at h
        · rename_i hE
          have hE' : q < c.length ∧ numB (c.getD q 0) = true := by
            rcases Bool.or_eq_true _ _ ▸ hE with h1 | h1
            · obtain ⟨h1, h2⟩ := (isAt_iff _ _ _).1 h1
              exact ⟨h1, by rw [h2]; rfl⟩
            · obtain ⟨h1, h2⟩ := (isAt_iff _ _ _).1 h1
              exact ⟨h1, by rw [h2]; rfl⟩
          split at h
          · rename_i hD
            cases h
            refine ((NumRun.one hE'.1 hE'.2).trans ?_).trans (numRun_dend (Nat.le_of_lt ((isD_iff _ _).1 hD).1))
            unfold expSign
            split
            · rename_i hS
              rcases Bool.or_eq_true _ _ ▸ hS with h1 | h1
              · obtain ⟨h1, h2⟩ := (isAt_iff _ _ _).1 h1
                exact NumRun.one h1 (by rw [h2]; rfl)
              · obtain ⟨h1, h2⟩ := (isAt_iff _ _ _).1 h1
                exact NumRun.one h1 (by rw [h2]; rfl)
            · exact NumRun.nil (by omega)
          · cases h
        · cases h
          exact NumRun.nil hq.2.1
      refine ⟨((hs.trans hint.1).trans hq).trans he, ?_⟩
      have a1 := hs.1
      have a2 := hint.2
      have a3 := hq.1
      have a4 := he.1
      omega
  · cases h

theorem number_step {c pre ind : List Int} {p d : Nat} {r : Piece} (hp : p < c.length) (h : number c p = some r) (hf : Follow c (p + r.n)) :
    1 ≤ r.n ∧ p + r.n ≤ c.length ∧ r.out.length ≤ r.n ∧ istep c pre ind p d = some ⟨p + r.n, d, r.out⟩ := by
  unfold number at h
  cases he : numEnd c p with
  | none => rw [he] at h; cases h
  | some e =>
    rw [he] at h
    simp only [Option.map_some, Option.some.injEq] at h
    subst h
    obtain ⟨hr, hlt⟩ := numEnd_run hp he
    simp only at hf ⊢
    rw [show p + (e - p) = e by omega] at hf ⊢
    have hte : tokEnd c p = e := tokEnd_of hlt hr.2.1 (fun k h1 h2 => (numB_delim (hr.2.2 k (by omega) h2)).1) hf
    obtain ⟨_, n1, n2, n3, n4, n5, n6, n7⟩ := numB_delim (hr.2.2 p (Nat.le_refl _) hlt)
    refine ⟨by omega, hr.2.1, by simp; omega, ?_⟩
    unfold istep
    simp only [n1, n2, n3, n4, n5, n6, n7, or_self, if_false, hte]

theorem word_step {c pre ind w : List Int} {p d : Nat} {r : Piece} (h : word c p w = some r) (hw : 0 < w.length) (hwb : ∀ b ∈ w, 97 ≤ b ∧ b ≤ 122) (hf : Follow c (p + r.n)) :
    1 ≤ r.n ∧ p + r.n ≤ c.length ∧ r.out.length ≤ r.n ∧ istep c pre ind p d = some ⟨p + r.n, d, r.out⟩ := by
  unfold word at h
  split at h
  · cases h
  · split at h
    · rename_i h1 h2
      cases h
      have hget : ∀ k, p ≤ k → k < p + w.length → 97 ≤ c.getD k 0 ∧ c.getD k 0 ≤ 122 := by
        intro k hk1 hk2
        apply hwb
        rw [← h2, show c.getD k 0 = (c.drop p).getD (k - p) 0 by simp [List.getD_eq_getElem?_getD]; rw [show p + (k - p) = k by omega]]
        have : k - p < ((c.drop p).take w.length).length := by simp; omega
        rw [show (c.drop p).getD (k - p) 0 = ((c.drop p).take w.length)[k - p] by
          simp [List.getD_eq_getElem?_getD, List.getElem?_eq_getElem (show p + (k - p) < c.length by omega)]]
        exact List.getElem_mem _
      have hte : tokEnd c p = p + w.length := tokEnd_of (by omega) (by omega) (fun k a b => by
        have := hget k (by omega) b
        simp only [delim, Bool.or_eq_false_iff, beq_eq_false_iff_ne]; omega) hf
      refine ⟨by simp; omega, by simp; omega, by simp, ?_⟩
      have h0 := hget p (Nat.le_refl _) (by omega)
      have n1 : ¬ c.getD p 0 = 34 := by omega
      have n2 : ¬ c.getD p 0 = 123 := by omega
      have n3 : ¬ c.getD p 0 = 91 := by omega
      have n4 : ¬ c.getD p 0 = 125 := by omega
      have n5 : ¬ c.getD p 0 = 93 := by omega
      have n6 : ¬ c.getD p 0 = 44 := by omega
      have n7 : ¬ c.getD p 0 = 58 := by omega
      unfold istep
      simp only [n1, n2, n3, n4, n5, n6, n7, or_self, if_false, hte]
      rw [show p + w.length - p = w.length by omega, h2]
    · cases h


/-! ### the model and Indent write the same -/
theorem str_step {c pre ind : List Int} {p d : Nat} {r : Piece} (hb : c.getD p 0 = 34) (h : str c (p + 1) = some r) : istep c pre ind p d = some ⟨p + 1 + r.n, d, 34 :: r.out⟩ := by
  unfold istep
  simp only [hb, if_true, h, Option.map_some]

theorem delim_isAt {c : List Int} {p : Nat} {b : Int} (h : isAt c p b = true) (hb : b = 44 ∨ b = 125 ∨ b = 93) : Follow c p := by
  obtain ⟨_, h2⟩ := (isAt_iff _ _ _).1 h
  right
  rw [h2]
  rcases hb with rfl | rfl | rfl <;> rfl

/-- what the model gives, in short: the place moves on; how many lines; how long -/
def Good (pre ind : List Int) (e p : Nat) (r : MR) (len : Nat) : Prop :=
  p < r.p ∧ r.p ≤ len ∧ r.ln + e ≤ r.p - p ∧ ∀ D, r.dp ≤ D → r.out.length ≤ r.ln * (1 + pre.length + D * ind.length) + 2 * (r.p - p)

theorem key_good {c : List Int} {p : Nat} {k : Piece} (h : key c p = some k) : 2 ≤ k.n ∧ p + k.n ≤ c.length ∧ k.out.length ≤ 2 * k.n := by
  unfold key at h
  split at h
  · rename_i h34
    cases hs : str c (p + 1) with
    | none => rw [hs] at h; cases h
    | some r =>
      rw [hs] at h
      simp only at h
      split at h
      · rename_i h58
        cases h
        have := str_pos hs
        have := ((isAt_iff _ _ _).1 h58).1
        simp
        omega
      · cases h
  · cases h

theorem nl_le {pre ind : List Int} {d D : Nat} (h : d ≤ D) : (nl pre ind d).length ≤ 1 + pre.length + D * ind.length := by
  rw [nl_length]
  have := Nat.mul_le_mul_right ind.length h
  omega

theorem ofPiece_some {p : Nat} {o : List Int} {q : Option Piece} {r : MR} (h : ofPiece p o q = some r) : ∃ k, q = some k ∧ r = ⟨p + k.n, o ++ k.out, 0, 0⟩ := by
  unfold ofPiece at h
  cases q with
  | none => cases h
  | some k => exact ⟨k, rfl, by simpa using h.symm⟩

theorem word_good {c w : List Int} {p : Nat} {r : Piece} (h : word c p w = some r) (hw : 0 < w.length) : 1 ≤ r.n ∧ p + r.n ≤ c.length ∧ r.out.length ≤ r.n := by
  unfold word at h
  split at h
  · cases h
  · split at h
    · cases h; simp; omega
    · cases h

theorem number_good {c : List Int} {p : Nat} {r : Piece} (hp : p < c.length) (h : number c p = some r) : 1 ≤ r.n ∧ p + r.n ≤ c.length ∧ r.out.length ≤ r.n := by
  unfold number at h
  cases he : numEnd c p with
  | none => rw [he] at h; cases h
  | some e =>
    rw [he] at h
    simp only [Option.map_some, Option.some.injEq] at h
    subst h
    obtain ⟨hr, hlt⟩ := numEnd_run hp he
    have := hr.2.1
    simp
    omega

theorem mj_good (c pre ind : List Int) (f : Nat) : ∀ L p d r, mj c pre ind f L p d = some (some r) → Good pre ind (match L with | none => 1 | some _ => 0) p r c.length := by
  induction f with
  | zero => intro L p d r h; simp [mj] at h
  | succ f ih =>
    intro L p d r h
    cases L with
    | none =>
      simp only [mj] at h
      split at h
      · rename_i hp
        split at h
        · split at h
          · rename_i hc
            have := ((isAt_iff _ _ _).1 hc).1
            cases h
            refine ⟨by simp, by simp; omega, by simp, fun D _ => by simp⟩
          · split at h
            · cases h
            · cases h
            · rename_i q hq
              cases h
              obtain ⟨h1, h2, h3, h4⟩ := ih _ _ _ _ hq
              simp only at h3
              refine ⟨by simp; omega, h2, by simp; omega, fun D hD => ?_⟩
              have := h4 D hD
              simp
              omega
        · split at h
          · simp only [Option.some.injEq] at h
            obtain ⟨k, hk, rfl⟩ := ofPiece_some h
            have := str_pos hk
            exact ⟨by simp; omega, by simp; omega, by simp; omega, fun D _ => by simp; omega⟩
          · split at h
            · simp only [Option.some.injEq] at h
              obtain ⟨k, hk, rfl⟩ := ofPiece_some h
              have := word_good hk (by decide)
              exact ⟨by simp; omega, by simp; omega, by simp; omega, fun D _ => by simp; omega⟩
            · split at h
              · simp only [Option.some.injEq] at h
                obtain ⟨k, hk, rfl⟩ := ofPiece_some h
                have := word_good hk (by decide)
                exact ⟨by simp; omega, by simp; omega, by simp; omega, fun D _ => by simp; omega⟩
              · split at h
                · simp only [Option.some.injEq] at h
                  obtain ⟨k, hk, rfl⟩ := ofPiece_some h
                  have := word_good hk (by decide)
                  exact ⟨by simp; omega, by simp; omega, by simp; omega, fun D _ => by simp; omega⟩
                · simp only [Option.some.injEq] at h
                  obtain ⟨k, hk, rfl⟩ := ofPiece_some h
                  have := number_good hp hk
                  exact ⟨by simp; omega, by simp; omega, by simp; omega, fun D _ => by simp; omega⟩
      · cases h
    | some co =>
      obtain ⟨closer, obj⟩ := co
      simp only [mj] at h
      split at h
      · cases h
      · rename_i k hk
        have hkg : p + k.n ≤ c.length ∨ k.n = 0 := by
          cases obj
          · simp at hk; subst hk; exact .inr rfl
          · simp at hk; exact .inl (key_good hk).2.1
        have hko : k.out.length ≤ 2 * k.n := by
          cases obj
          · simp at hk; subst hk; simp
          · simp at hk; exact (key_good hk).2.2
        split at h
        · cases h
        · cases h
        · rename_i r1 hr1
          obtain ⟨g1, g2, g3, g4⟩ := ih _ _ _ _ hr1
          simp only at g3
          split at h
          · split at h
            · cases h
            · cases h
            · rename_i q hq
              cases h
              obtain ⟨k1, k2, k3, k4⟩ := ih _ _ _ _ hq
              simp only at k3
              refine ⟨by simp; omega, k2, by simp; omega, fun D hD => ?_⟩
              have a1 := g4 D (by simp at hD; omega)
              have a2 := k4 D (by simp at hD; omega)
              have a3 := nl_le (pre := pre) (ind := ind) (show d + 1 ≤ D by simp at hD; omega)
              simp only [List.length_append, List.length_cons]
              rw [Nat.add_mul, Nat.add_mul, Nat.one_mul]
              omega
          · split at h
            · rename_i hcl
              have := ((isAt_iff _ _ _).1 hcl).1
              cases h
              refine ⟨by simp; omega, by simp; omega, by simp; omega, fun D hD => ?_⟩
              have a1 := g4 D (by simp at hD; omega)
              have a3 := nl_le (pre := pre) (ind := ind) (show d + 1 ≤ D by simp at hD; omega)
              have a4 := nl_le (pre := pre) (ind := ind) (show d ≤ D by simp at hD; omega)
              simp only [List.length_append, List.length_cons, List.length_nil]
              rw [Nat.add_mul, Nat.add_mul, Nat.one_mul]
              omega
            · cases h

/-- a value does not begin with a closing bracket -/
theorem mj_head {c pre ind : List Int} {f p d : Nat} {r : MR} (h : mj c pre ind f none p d = some (some r)) : p < c.length ∧ c.getD p 0 ≠ 125 ∧ c.getD p 0 ≠ 93 := by
  cases f with
  | zero => simp [mj] at h
  | succ f =>
    simp only [mj] at h
    split at h
    · rename_i hp
      refine ⟨hp, ?_⟩
      by_cases hx : c.getD p 0 = 125 ∨ c.getD p 0 = 93
      · exfalso
        have n1 : ¬ (c.getD p 0 = 123 ∨ c.getD p 0 = 91) := by omega
        have n2 : ¬ c.getD p 0 = 34 := by omega
        have n3 : ¬ c.getD p 0 = 116 := by omega
        have n4 : ¬ c.getD p 0 = 102 := by omega
        have n5 : ¬ c.getD p 0 = 110 := by omega
        rw [if_neg n1, if_neg n2, if_neg n3, if_neg n4, if_neg n5] at h
        simp only [Option.some.injEq] at h
        obtain ⟨k, hk, rfl⟩ := ofPiece_some h
        unfold number at hk
        cases he : numEnd c p with
        | none => rw [he] at hk; cases hk
        | some e =>
          obtain ⟨hr, hlt⟩ := numEnd_run hp he
          have := numB_delim (hr.2.2 p (Nat.le_refl _) hlt)
          omega
      · omega
    · cases h

/-- THE LAW: from a value's (an element's) place on Indent's loop writes what the model writes, and goes on where the model has come to. -/
theorem mj_irun (c pre ind : List Int) (f : Nat) :
    (∀ p d r, mj c pre ind f none p d = some (some r) → Follow c r.p → ∀ g rest, irun c pre ind g r.p d = some rest → ∃ g', irun c pre ind g' p d = some (r.out ++ rest)) ∧
    (∀ closer obj p d r, (closer = 125 ∨ closer = 93) → mj c pre ind f (some (closer, obj)) p d = some (some r) →
      ∃ tl, r.out = nl pre ind (d + 1) ++ tl ∧ (obj = true → isAt c p 34 = true) ∧ (obj = false → p < c.length ∧ c.getD p 0 ≠ 125 ∧ c.getD p 0 ≠ 93) ∧
        ∀ g rest, irun c pre ind g r.p d = some rest → ∃ g', irun c pre ind g' p (d + 1) = some (tl ++ rest)) := by
  induction f with
  | zero => exact ⟨fun p d r h => by simp [mj] at h, fun _ _ p d r _ h => by simp [mj] at h⟩
  | succ f ih =>
    obtain ⟨ihv, ihl⟩ := ih
    constructor
    · intro p d r h hfol g rest hrest
      simp only [mj] at h
      split at h
      · rename_i hp
        split at h
        · rename_i hb
          split at h
          · rename_i hc
            cases h
            obtain ⟨h1, h2⟩ := (isAt_iff _ _ _).1 hc
            refine ⟨g + 1, irun_step (s := ⟨p + 2, d, [c.getD p 0, closerOf (c.getD p 0)]⟩) hp ?_ hrest⟩
            unfold istep
            rw [if_neg (by omega), if_pos hb, if_pos h1, if_pos (by rw [h2]; unfold closerOf; split <;> omega), h2]
          · split at h
            · cases h
            · cases h
            · rename_i q hq
              cases h
              obtain ⟨tl, htl, ho, ha, hgo⟩ := ihl _ _ _ _ _ (by unfold closerOf; split <;> omega) hq
              obtain ⟨g', hg'⟩ := hgo g rest hrest
              have hnext : p + 1 < c.length ∧ ¬ (c.getD (p + 1) 0 = 125 ∨ c.getD (p + 1) 0 = 93) := by
                by_cases hobj : c.getD p 0 = 123
                · obtain ⟨x1, x2⟩ := (isAt_iff _ _ _).1 (ho (by simpa using hobj))
                  exact ⟨x1, by omega⟩
                · obtain ⟨x1, x2, x3⟩ := ha (by simpa using hobj)
                  exact ⟨x1, by omega⟩
              refine ⟨g' + 1, ?_⟩
              have := irun_step (pre := pre) (ind := ind) (d := d) (s := ⟨p + 1, d + 1, c.getD p 0 :: nl pre ind (d + 1)⟩) hp (by
                unfold istep
                rw [if_neg (by omega), if_pos hb, if_pos hnext.1, if_neg hnext.2]) hg'
              rw [this, htl]
              simp
        · split at h
          · rename_i hb34
            simp only [Option.some.injEq] at h
            obtain ⟨k, hk, rfl⟩ := ofPiece_some h
            exact ⟨g + 1, irun_step hp (str_step hb34 hk) hrest⟩
          · split at h
            · simp only [Option.some.injEq] at h
              obtain ⟨k, hk, rfl⟩ := ofPiece_some h
              exact ⟨g + 1, irun_step hp (word_step hk (by decide) (by decide) hfol).2.2.2 hrest⟩
            · split at h
              · simp only [Option.some.injEq] at h
                obtain ⟨k, hk, rfl⟩ := ofPiece_some h
                exact ⟨g + 1, irun_step hp (word_step hk (by decide) (by decide) hfol).2.2.2 hrest⟩
              · split at h
                · simp only [Option.some.injEq] at h
                  obtain ⟨k, hk, rfl⟩ := ofPiece_some h
                  exact ⟨g + 1, irun_step hp (word_step hk (by decide) (by decide) hfol).2.2.2 hrest⟩
                · simp only [Option.some.injEq] at h
                  obtain ⟨k, hk, rfl⟩ := ofPiece_some h
                  exact ⟨g + 1, irun_step hp (number_step hp hk hfol).2.2.2 hrest⟩
      · cases h
    · intro closer obj p d r hcl h
      simp only [mj] at h
      split at h
      · cases h
      · rename_i k hk
        split at h
        · cases h
        · cases h
        · rename_i r1 hr1
          have hhead := mj_head hr1
          have hkey : ∀ g' rest', irun c pre ind g' (p + k.n) (d + 1) = some rest' → ∃ g'', irun c pre ind g'' p (d + 1) = some (k.out ++ rest') := by
            intro g' rest' hg'
            cases obj
            · simp at hk; subst hk; exact ⟨g', by simpa using hg'⟩
            · simp at hk
              unfold key at hk
              split at hk
              · rename_i h34
                obtain ⟨x1, x2⟩ := (isAt_iff _ _ _).1 h34
                cases hs : str c (p + 1) with
                | none => rw [hs] at hk; cases hk
                | some q =>
                  rw [hs] at hk
                  simp only at hk
                  split at hk
                  · rename_i h58
                    obtain ⟨y1, y2⟩ := (isAt_iff _ _ _).1 h58
                    cases hk
                    have s2 := irun_step (pre := pre) (ind := ind) (d := d + 1) (s := ⟨p + 1 + q.n + 1, d + 1, [58, 32]⟩) y1 (by
                      unfold istep
                      rw [if_neg (by omega), if_neg (by omega), if_neg (by omega), if_neg (by omega), if_pos y2]) (by
                        have := hg'
                        simp only at this
                        rw [show p + (1 + q.n + 1) = p + 1 + q.n + 1 by omega] at this
                        exact this)
                    refine ⟨g' + 1 + 1, ?_⟩
                    have := irun_step (pre := pre) (ind := ind) (d := d + 1) x1 (str_step x2 hs) s2
                    rw [this]
                    simp
                  · cases hk
              · cases hk
          have hobj : obj = true → isAt c p 34 = true := by
            intro e
            subst e
            simp at hk
            unfold key at hk
            split at hk
            · assumption
            · cases hk
          have harr : obj = false → p < c.length ∧ c.getD p 0 ≠ 125 ∧ c.getD p 0 ≠ 93 := by
            intro e
            subst e
            simp at hk; subst hk
            simpa using hhead
          split at h
          · rename_i h44
            obtain ⟨x1, x2⟩ := (isAt_iff _ _ _).1 h44
            split at h
            · cases h
            · cases h
            · rename_i q hq
              cases h
              obtain ⟨tl, htl, _, _, hgo⟩ := ihl _ _ _ _ _ hcl hq
              refine ⟨k.out ++ (r1.out ++ (44 :: q.out)), rfl, hobj, harr, fun g rest hrest => ?_⟩
              obtain ⟨g1, hg1⟩ := hgo g rest hrest
              have s1 := irun_step (pre := pre) (ind := ind) (d := d + 1) (s := ⟨r1.p + 1, d + 1, 44 :: nl pre ind (d + 1)⟩) x1 (by
                unfold istep
                rw [if_neg (by omega), if_neg (by omega), if_neg (by omega), if_pos x2]) hg1
              obtain ⟨g2, hg2⟩ := ihv _ _ _ hr1 (delim_isAt h44 (.inl rfl)) _ _ s1
              obtain ⟨g3, hg3⟩ := hkey _ _ hg2
              refine ⟨g3, ?_⟩
              rw [hg3, htl]
              simp
          · split at h
            · rename_i hclo
              obtain ⟨x1, x2⟩ := (isAt_iff _ _ _).1 hclo
              cases h
              refine ⟨k.out ++ (r1.out ++ (nl pre ind d ++ [closer])), rfl, hobj, harr, fun g rest hrest => ?_⟩
              have s1 := irun_step (pre := pre) (ind := ind) (d := d + 1) (s := ⟨r1.p + 1, d, nl pre ind d ++ [closer]⟩) x1 (by
                unfold istep
                rw [if_neg (by omega), if_neg (by omega), if_pos (by omega), if_pos (by omega), x2]
                simp) hrest
              obtain ⟨g2, hg2⟩ := ihv _ _ _ hr1 (delim_isAt hclo (.inr hcl)) _ _ s1
              obtain ⟨g3, hg3⟩ := hkey _ _ hg2
              refine ⟨g3, ?_⟩
              rw [hg3]
              simp
            · cases h

/-- enough fuel: an answer -/
theorem mj_fuel (c pre ind : List Int) (f : Nat) : ∀ L p d, 2 * (c.length + 1 - p) + (match L with | none => 1 | some _ => 2) ≤ f → mj c pre ind f L p d ≠ none := by
  induction f with
  | zero => intro L p d h; cases L <;> simp at h
  | succ f ih =>
    intro L p d h
    cases L with
    | none =>
      simp only at h
      simp only [mj]
      split
      · split
        · split
          · simp
          · cases hm : mj c pre ind f (some (closerOf (c.getD p 0), c.getD p 0 == 123)) (p + 1) d with
            | none => exact absurd hm (ih _ _ _ (by simp only; omega))
            | some o => cases o <;> simp
        · split
          · simp
          · split
            · simp
            · split
              · simp
              · split <;> simp
      · simp
    | some co =>
      obtain ⟨closer, obj⟩ := co
      simp only at h
      simp only [mj]
      split
      · simp
      · rename_i k hk
        cases hm : mj c pre ind f none (p + k.n) (d + 1) with
        | none => exact absurd hm (ih _ _ _ (by simp only; omega))
        | some o =>
          cases o with
          | none => simp
          | some r =>
            simp only
            have hg := mj_good c pre ind f _ _ _ _ hm
            split
            · cases hm2 : mj c pre ind f (some (closer, obj)) (r.p + 1) d with
              | none => exact absurd hm2 (ih _ _ _ (by simp only; have := hg.1; have := hg.2.1; omega))
              | some o => cases o <;> simp
            · split <;> simp

end Go.Proofs.Qxb6603067a.Plain
