/-
  THE PLAIN LAW of (*walk).integer: digits, their value, the run's bound, and the canonical decimal text; no Go in sight.
-/
namespace Go.Proofs.Qxb6603067a.Plain

def dg (b : Int) : Bool := decide (48 ≤ b) && decide (b ≤ 57)
def dv (b : Int) : Nat := (b - 48).toNat
def digs (l : List Int) : List Int := l.takeWhile dg
def val : Nat → List Int → Nat
  | m, [] => m
  | m, b :: bs => val (m * 10 + dv b) bs
def AllDig (l : List Int) : Prop := ∀ b ∈ l, 48 ≤ b ∧ b ≤ 57

theorem dg_iff (b : Int) : dg b = true ↔ 48 ≤ b ∧ b ≤ 57 := by simp [dg]
theorem digs_nil : digs [] = [] := rfl
theorem digs_yes {b : Int} {bs : List Int} (h : dg b = true) : digs (b :: bs) = b :: digs bs := by simp [digs, h]
theorem digs_no {b : Int} {bs : List Int} (h : dg b = false) : digs (b :: bs) = [] := by simp [digs, h]
theorem allDig_digs (l : List Int) : AllDig (digs l) := by
  induction l with
  | nil => intro b hb; simp [digs] at hb
  | cons x xs ih =>
    cases hx : dg x
    · rw [digs_no hx]; intro b hb; simp at hb
    · rw [digs_yes hx]
      intro b hb
      rcases List.mem_cons.1 hb with rfl | hb
      · exact (dg_iff b).1 hx
      · exact ih b hb

theorem val_ge (l : List Int) : ∀ m, m * 10 ^ l.length ≤ val m l := by
  induction l with
  | nil => intro m; simp [val]
  | cons b bs ih =>
    intro m
    have := ih (m * 10 + dv b)
    simp only [val, List.length_cons, Nat.pow_succ]
    refine Nat.le_trans ?_ this
    rw [show m * (10 ^ bs.length * 10) = m * 10 * 10 ^ bs.length by rw [Nat.mul_comm (10 ^ bs.length) 10, Nat.mul_assoc]]
    exact Nat.mul_le_mul_right _ (by omega)

theorem val_ge_start (l : List Int) (m : Nat) : m ≤ val m l := by
  have h := val_ge l m
  have : m * 1 ≤ m * 10 ^ l.length := Nat.mul_le_mul_left _ (Nat.one_le_pow _ _ (by omega))
  omega

theorem val_lt (l : List Int) (hl : AllDig l) : ∀ m, val m l < (m + 1) * 10 ^ l.length := by
  induction l with
  | nil => intro m; simp [val]
  | cons b bs ih =>
    intro m
    have hb := hl b (by simp)
    have := ih (fun x hx => hl x (by simp [hx])) (m * 10 + dv b)
    simp only [val, List.length_cons, Nat.pow_succ]
    refine Nat.lt_of_lt_of_le this ?_
    rw [show (m + 1) * (10 ^ bs.length * 10) = (m + 1) * 10 * 10 ^ bs.length by rw [Nat.mul_comm (10 ^ bs.length) 10, Nat.mul_assoc]]
    refine Nat.mul_le_mul_right _ ?_
    unfold dv; omega

/-- What the loop of integer does: fin: it came to the end of the digits; m: the magnitude; used: how many digits were passed. -/
structure Run where
  fin : Bool
  m : Nat
  used : Nat
def Run.more (r : Run) (k : Nat) : Run := { r with used := r.used + k }
theorem Run.more_more (r : Run) (j k : Nat) : (r.more j).more k = r.more (j + k) := by simp [Run.more, Nat.add_assoc]

def run (limit : Nat) : List Int → Nat → Run
  | [], m => ⟨true, m, 0⟩
  | b :: bs, m =>
    if dg b then
      if limit / 10 < m then ⟨false, m, 0⟩
      else if limit < m * 10 + dv b then ⟨false, m * 10 + dv b, 0⟩
      else (run limit bs (m * 10 + dv b)).more 1
    else ⟨true, m, 0⟩

theorem run_fits (limit : Nat) (l : List Int) : ∀ m, val m (digs l) ≤ limit → run limit l m = ⟨true, val m (digs l), (digs l).length⟩ := by
  induction l with
  | nil => intro m _; rfl
  | cons b bs ih =>
    intro m h
    cases hb : dg b
    · rw [digs_no hb]; simp [run, hb, val]
    · rw [digs_yes hb] at h ⊢
      simp only [val] at h
      have h1 := val_ge_start (digs bs) (m * 10 + dv b)
      simp only [run, hb, if_true]
      rw [if_neg (by omega), if_neg (by omega), ih _ h]
      simp [Run.more, val]

theorem run_over (limit : Nat) (l : List Int) : ∀ m, limit < val m (digs l) → m ≤ limit → (run limit l m).fin = false ∧ (run limit l m).used ≤ (digs l).length := by
  induction l with
  | nil => intro m h hm; simp [digs_nil, val] at h; omega
  | cons b bs ih =>
    intro m h hm
    cases hb : dg b
    · rw [digs_no hb] at h; simp [val] at h; omega
    · rw [digs_yes hb] at h ⊢
      simp only [val] at h
      simp only [run, hb, if_true]
      by_cases h1 : limit / 10 < m
      · simp [h1]
      · rw [if_neg h1]
        by_cases h2 : limit < m * 10 + dv b
        · simp [h2]
        · rw [if_neg h2]
          have := ih _ h (by omega)
          simp [Run.more, this.1]
          exact this.2

/-! ### the canonical decimal text -/
structure IsDec (l : List Int) (u : Nat) : Prop where
  dig : AllDig l
  pos : 0 < l.length
  val : val 0 l = u
  lead : 1 < l.length → l.getD 0 0 ≠ 48

def lex : List Int → List Int → Int
  | x :: xs, y :: ys => if x = y then lex xs ys else if x < y then -1 else 1
  | _, _ => 0
def cmpD (a b : List Int) : Int := if a.length = b.length then lex a b else if a.length < b.length then -1 else 1
def cmpN (u v : Nat) : Int := if u = v then 0 else if u < v then -1 else 1

theorem val_mono_acc (a b : List Int) (h : a.length = b.length) (ha : AllDig a) (m n : Nat) (hmn : m < n) : val m a < val n b := by
  have h1 := val_lt a ha m
  have h2 := val_ge b n
  rw [h] at h1
  have : (m + 1) * 10 ^ b.length ≤ n * 10 ^ b.length := Nat.mul_le_mul_right _ (by omega)
  omega

theorem lex_val (a : List Int) : ∀ (b : List Int), a.length = b.length → AllDig a → AllDig b → ∀ m, lex a b = cmpN (val m a) (val m b) := by
  induction a with
  | nil =>
    intro b h _ _ m
    have : b = [] := List.length_eq_zero_iff.mp h.symm
    subst this
    simp [lex, val, cmpN]
  | cons x xs ih =>
    intro b h ha hb m
    match b, h, hb with
    | y :: ys, h, hb =>
      have hx := ha x (by simp)
      have hy := hb y (by simp)
      have hl : xs.length = ys.length := by simpa using h
      have ha' : AllDig xs := fun z hz => ha z (by simp [hz])
      have hb' : AllDig ys := fun z hz => hb z (by simp [hz])
      simp only [lex, val]
      by_cases e : x = y
      · subst e
        rw [if_pos rfl]
        exact ih ys hl ha' hb' _
      · rw [if_neg e]
        by_cases lt : x < y
        · rw [if_pos lt]
          have := val_mono_acc xs ys hl ha' (m * 10 + dv x) (m * 10 + dv y) (by unfold dv; omega)
          unfold cmpN
          rw [if_neg (by omega), if_pos this]
        · rw [if_neg lt]
          have := val_mono_acc ys xs hl.symm hb' (m * 10 + dv y) (m * 10 + dv x) (by unfold dv; omega)
          unfold cmpN
          rw [if_neg (by omega), if_neg (by omega)]

theorem shorter {a b : List Int} {u v : Nat} (ha : IsDec a u) (hb : IsDec b v) (h : a.length < b.length) : u < v := by
  have h1 := val_lt a ha.dig 0
  rw [ha.val] at h1
  have hp := ha.pos
  match b, hb, h with
  | y :: ys, hb, h =>
    have hl := hb.lead (by omega)
    have hy := hb.dig y (by simp)
    simp at hl
    have h2 := val_ge ys (dv y)
    have h3 : val (dv y) ys = v := by have := hb.val; simpa [val] using this
    rw [h3] at h2
    simp at h
    have h4 : 10 ^ a.length ≤ 10 ^ ys.length := Nat.pow_le_pow_right (by omega) (by omega)
    have h5 : 1 * 10 ^ ys.length ≤ dv y * 10 ^ ys.length := Nat.mul_le_mul_right _ (by unfold dv; omega)
    omega

theorem cmp_dec {a b : List Int} {u v : Nat} (ha : IsDec a u) (hb : IsDec b v) : cmpD a b = cmpN u v := by
  unfold cmpD
  by_cases h : a.length = b.length
  · rw [if_pos h, lex_val a b h ha.dig hb.dig 0, ha.val, hb.val]
  · rw [if_neg h]
    by_cases lt : a.length < b.length
    · have := shorter ha hb lt
      rw [if_pos lt]
      unfold cmpN
      rw [if_neg (by omega), if_pos this]
    · have := shorter hb ha (by omega)
      rw [if_neg lt]
      unfold cmpN
      rw [if_neg (by omega), if_neg (by omega)]

theorem lex_eq (a : List Int) : ∀ b, a.length = b.length → lex a b = 0 → a = b := by
  induction a with
  | nil => intro b h _; exact (List.length_eq_zero_iff.mp h.symm).symm
  | cons x xs ih =>
    intro b h h0
    match b, h with
    | y :: ys, h =>
      simp only [lex] at h0
      by_cases e : x = y
      · subst e
        rw [if_pos rfl] at h0
        rw [ih ys (by simpa using h) h0]
      · rw [if_neg e] at h0
        split at h0 <;> simp at h0

theorem dec_unique {a b : List Int} {u : Nat} (ha : IsDec a u) (hb : IsDec b u) : a = b := by
  have h := cmp_dec ha hb
  rw [show cmpN u u = 0 by simp [cmpN]] at h
  unfold cmpD at h
  by_cases e : a.length = b.length
  · rw [if_pos e] at h
    exact lex_eq a b e h
  · rw [if_neg e] at h
    split at h <;> simp at h

theorem isDec_of {l : List Int} (hd : AllDig l) (h0 : l.length ≠ 0) (hl : ¬ (1 < l.length ∧ l.getD 0 0 = 48)) : IsDec l (val 0 l) :=
  ⟨hd, by omega, rfl, fun h e => hl ⟨h, e⟩⟩

/-- a canonical text is nought only as '0' -/
theorem val_zero {l : List Int} {u : Nat} (h : IsDec l u) (h0 : u = 0) : l = [48] := by
  refine dec_unique h ?_
  subst h0
  exact ⟨by intro b hb; simp at hb; omega, by simp, rfl, by simp⟩

theorem val_append (a b : List Int) : ∀ m, val m (a ++ b) = val (val m a) b := by
  induction a with
  | nil => intro m; rfl
  | cons x xs ih => intro m; simp [val, ih]

theorem val_acc (l : List Int) : ∀ m, val m l = m * 10 ^ l.length + val 0 l := by
  induction l with
  | nil => intro m; simp [val]
  | cons x xs ih =>
    intro m
    simp only [val, List.length_cons, Nat.pow_succ]
    rw [ih (m * 10 + dv x), ih (0 * 10 + dv x), Nat.zero_mul, Nat.zero_add]
    have : (m * 10 + dv x) * 10 ^ xs.length = m * (10 ^ xs.length * 10) + dv x * 10 ^ xs.length := by
      rw [Nat.add_mul, Nat.mul_assoc, Nat.mul_comm 10]
    omega

/-- one round of the writer: the digits so far, and what is left to write -/
def Half (u0 u : Nat) (acc : List Int) : Prop := AllDig acc ∧ u0 = u * 10 ^ acc.length + val 0 acc ∧ (0 < acc.length → 0 < u)

theorem half_start (u : Nat) : Half u u [] := ⟨by intro b hb; simp at hb, by simp [val], by simp⟩

theorem half_step {u0 u : Nat} {acc : List Int} (h : Half u0 u acc) (hu : 0 < u / 10) : Half u0 (u / 10) ((48 + ((u % 10 : Nat) : Int)) :: acc) := by
  obtain ⟨h1, h2, h3⟩ := h
  refine ⟨?_, ?_, fun _ => hu⟩
  · intro b hb
    rcases List.mem_cons.1 hb with rfl | hb
    · omega
    · exact h1 b hb
  · simp only [val, List.length_cons, Nat.pow_succ]
    rw [val_acc acc (0 * 10 + _)]
    have e1 : dv (48 + ((u % 10 : Nat) : Int)) = u % 10 := by unfold dv; omega
    rw [e1, h2, Nat.zero_mul, Nat.zero_add]
    have : u * 10 ^ acc.length = u / 10 * (10 ^ acc.length * 10) + u % 10 * 10 ^ acc.length := by
      conv => lhs; rw [show u = u / 10 * 10 + u % 10 by omega, Nat.add_mul, Nat.mul_assoc, Nat.mul_comm 10]
    omega

theorem half_end {u0 u : Nat} {acc : List Int} (h : Half u0 u acc) (hu : u / 10 = 0) : IsDec ((48 + ((u % 10 : Nat) : Int)) :: acc) u0 := by
  obtain ⟨h1, h2, h3⟩ := h
  have e1 : dv (48 + ((u % 10 : Nat) : Int)) = u % 10 := by unfold dv; omega
  refine ⟨?_, by simp, ?_, ?_⟩
  · intro b hb
    rcases List.mem_cons.1 hb with rfl | hb
    · omega
    · exact h1 b hb
  · simp only [val]
    rw [val_acc acc (0 * 10 + _), e1, h2]
    rw [show u % 10 = u by omega]
    simp
  · intro hl
    simp at hl ⊢
    have := h3 hl
    omega

theorem half_len {u0 u : Nat} {acc : List Int} (h : Half u0 u acc) (hu : u0 < 18446744073709551616) : acc.length ≤ 19 := by
  obtain ⟨_, h2, h3⟩ := h
  by_cases h0 : acc.length ≤ 19
  · exact h0
  · exfalso
    have hp := h3 (by omega)
    have h4 : 10 ^ 20 ≤ 10 ^ acc.length := Nat.pow_le_pow_right (by omega) (by omega)
    have h5 : 1 * 10 ^ acc.length ≤ u * 10 ^ acc.length := Nat.mul_le_mul_right _ (by omega)
    have h6 : (10 : Nat) ^ 20 = 100000000000000000000 := by decide
    omega

end Go.Proofs.Qxb6603067a.Plain
