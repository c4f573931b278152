/-
  THE PLAIN LAW of Indent: the grammar-driven model (value, container, str, word, number) and Indent's own loop write the same bytes; no Go in sight.
-/
import Derived.Test.Qxb6603067aIntPlain
namespace Go.Proofs.Qxb6603067a.Plain

/-- n copies of l, one behind the other -/
def reps : Nat → List Int → List Int
  | 0, _ => []
  | n + 1, l => l ++ reps n l

theorem reps_length (n : Nat) (l : List Int) : (reps n l).length = n * l.length := by
  induction n with
  | zero => simp [reps]
  | succ n ih => simp [reps, ih, Nat.succ_mul]; omega
theorem reps_succ' (n : Nat) (l : List Int) : reps (n + 1) l = reps n l ++ l := by
  induction n with
  | zero => simp [reps]
  | succ n ih => rw [reps, ih, ← List.append_assoc, ← reps, ← ih]
theorem reps_add (m n : Nat) (l : List Int) : reps (m + n) l = reps m l ++ reps n l := by
  induction m with
  | zero => simp [reps]
  | succ m ih => rw [Nat.succ_add, reps, reps, ih, List.append_assoc]

/-- what begins a line at level d -/
def nl (pre ind : List Int) (d : Nat) : List Int := 10 :: (pre ++ reps d ind)
theorem nl_length (pre ind : List Int) (d : Nat) : (nl pre ind d).length = 1 + pre.length + d * ind.length := by
  simp [nl, reps_length]; omega

/-! ### a string's rest, behind its opening quote -/
def hex (b : Int) : Bool := (dg b || (decide (97 ≤ b) && decide (b ≤ 102))) || (decide (65 ≤ b) && decide (b ≤ 70))
def esc1 (e : Int) : Bool := e == 34 || e == 92 || e == 47 || e == 98 || e == 102 || e == 110 || e == 114 || e == 116
def html (h1 h2 h3 h4 : Int) : Int :=
  if h1 = 48 ∧ h2 = 48 then
    if h3 = 51 ∧ h4 = 99 then 60
    else if h3 = 51 ∧ h4 = 101 then 62
    else if h3 = 50 ∧ h4 = 54 then 38
    else 0
  else 0

/-- What is read and what is written. -/
structure Piece where
  n : Nat
  out : List Int
def Piece.more (r : Piece) (k : Nat) (o : List Int) : Piece := ⟨k + r.n, o ++ r.out⟩

/-- One step within a string: the closing quote; a plain byte; an escape of two; an escape of six; none. -/
structure SStep where
  fin : Bool
  n : Nat
  out : List Int

def sstep (c : List Int) (p : Nat) : Option SStep :=
  if p < c.length then
    let b := c.getD p 0
    if b = 34 then some ⟨true, 1, [34]⟩
    else if b < 32 then none
    else if b ≠ 92 then some ⟨false, 1, [b]⟩
    else if p + 1 < c.length then
      let e := c.getD (p + 1) 0
      if esc1 e then some ⟨false, 2, [92, e]⟩
      else if e ≠ 117 then none
      else if p + 6 ≤ c.length then
        if hex (c.getD (p + 2) 0) && hex (c.getD (p + 3) 0) && hex (c.getD (p + 4) 0) && hex (c.getD (p + 5) 0) then
          let h := html (c.getD (p + 2) 0) (c.getD (p + 3) 0) (c.getD (p + 4) 0) (c.getD (p + 5) 0)
          some ⟨false, 6, if h = 0 then [92, 117, c.getD (p + 2) 0, c.getD (p + 3) 0, c.getD (p + 4) 0, c.getD (p + 5) 0] else [h]⟩
        else none
      else none
    else none
  else none

/-- The string's rest from p on: how many bytes, and what is written; fuel: the bytes that are left. -/
def strF (c : List Int) : Nat → Nat → Option Piece
  | 0, _ => none
  | f + 1, p => match sstep c p with
    | none => none
    | some s => if s.fin then some ⟨s.n, s.out⟩ else (strF c f (p + s.n)).map fun r => r.more s.n s.out

def str (c : List Int) (p : Nat) : Option Piece := strF c (c.length + 1) p

theorem sstep_pos {c : List Int} {p : Nat} {s : SStep} (h : sstep c p = some s) : 1 ≤ s.n ∧ p + s.n ≤ c.length := by
  unfold sstep at h
  by_cases h0 : p < c.length
  · rw [if_pos h0] at h
    simp only at h
    split at h
    · cases h; exact ⟨by simp, by simp; omega⟩
    · split at h
      · cases h
      · split at h
        · cases h; exact ⟨by simp, by simp; omega⟩
        · split at h
          · split at h
            · cases h; exact ⟨by simp, by simp; omega⟩
            · split at h
              · cases h
              · split at h
                · split at h
                  · cases h; exact ⟨by simp, by simp; omega⟩
                  · cases h
                · cases h
          · cases h
  · rw [if_neg h0] at h; cases h

theorem sstep_len {c : List Int} {p : Nat} {s : SStep} (h : sstep c p = some s) : s.out.length ≤ s.n := by
  unfold sstep at h
  by_cases h0 : p < c.length
  · rw [if_pos h0] at h
    simp only at h
    split at h
    · cases h; simp
    · split at h
      · cases h
      · split at h
        · cases h; simp
        · split at h
          · split at h
            · cases h; simp
            · split at h
              · cases h
              · split at h
                · split at h
                  · cases h
                    simp only
                    split <;> simp
                  · cases h
                · cases h
          · cases h
  · rw [if_neg h0] at h; cases h

theorem sstep_out {c : List Int} {p : Nat} (h : c.length ≤ p) : sstep c p = none := by
  unfold sstep; rw [if_neg (by omega)]

theorem strF_fuel {c : List Int} (f : Nat) : ∀ g p, c.length + 1 - p ≤ f → c.length + 1 - p ≤ g → strF c f p = strF c g p := by
  induction f with
  | zero =>
    intro g p h _
    cases g with
    | zero => rfl
    | succ g => simp [strF, sstep_out (show c.length ≤ p by omega)]
  | succ f ih =>
    intro g p h hg
    cases g with
    | zero => simp [strF, sstep_out (show c.length ≤ p by omega)]
    | succ g =>
      simp only [strF]
      cases hs : sstep c p with
      | none => rfl
      | some s =>
        have := sstep_pos hs
        simp only
        rw [ih g (p + s.n) (by omega) (by omega)]

theorem str_eq (c : List Int) (p : Nat) : str c p = match sstep c p with
    | none => none
    | some s => if s.fin then some ⟨s.n, s.out⟩ else (str c (p + s.n)).map fun r => r.more s.n s.out := by
  unfold str
  conv => lhs; unfold strF
  cases hs : sstep c p with
  | none => rfl
  | some s =>
    have := sstep_pos hs
    simp only
    rw [strF_fuel c.length (c.length + 1) (p + s.n) (by omega) (by omega)]

/-- what holds of a string's rest holds by steps -/
theorem str_ind {c : List Int} {motive : Nat → Piece → Prop} (hfin : ∀ p s, sstep c p = some s → s.fin = true → motive p ⟨s.n, s.out⟩)
    (hgo : ∀ p s r, sstep c p = some s → s.fin = false → motive (p + s.n) r → motive p (r.more s.n s.out)) : ∀ p r, str c p = some r → motive p r := by
  have key : ∀ f p r, strF c f p = some r → motive p r := by
    intro f
    induction f with
    | zero => intro p r h; simp [strF] at h
    | succ f ih =>
      intro p r h
      simp only [strF] at h
      cases hs : sstep c p with
      | none => rw [hs] at h; cases h
      | some s =>
        rw [hs] at h
        simp only at h
        by_cases hf : s.fin = true
        · rw [if_pos hf] at h
          cases h
          exact hfin p s hs hf
        · rw [if_neg hf] at h
          cases hr : strF c f (p + s.n) with
          | none => rw [hr] at h; cases h
          | some q =>
            rw [hr] at h
            cases h
            exact hgo p s q hs (by simpa using hf) (ih _ _ hr)
  exact fun p r h => key _ p r h

theorem str_pos {c : List Int} {p : Nat} {r : Piece} (h : str c p = some r) : 1 ≤ r.n ∧ p + r.n ≤ c.length ∧ r.out.length ≤ r.n := by
  refine str_ind (motive := fun p r => 1 ≤ r.n ∧ p + r.n ≤ c.length ∧ r.out.length ≤ r.n) ?_ ?_ p r h
  · intro p s hs _
    have := sstep_pos hs
    exact ⟨this.1, this.2, sstep_len hs⟩
  · intro p s r hs _ ih
    have := sstep_pos hs
    have := sstep_len hs
    simp only [Piece.more, List.length_append]
    omega

/-! ### a word, a number -/
def word (c : List Int) (p : Nat) (w : List Int) : Option Piece :=
  if c.length < p + w.length then none else if (c.drop p).take w.length = w then some ⟨w.length, w⟩ else none

/-- the end of a run of digits that begins at p -/
def dend (c : List Int) (p : Nat) : Nat := p + (digs (c.drop p)).length
def isD (c : List Int) (p : Nat) : Bool := decide (p < c.length) && dg (c.getD p 0)

def sign (c : List Int) (p : Nat) : Nat := if c.getD p 0 = 45 then p + 1 else p
def intEnd (c : List Int) (p : Nat) : Nat := if c.getD p 0 = 48 then p + 1 else dend c p
def isAt (c : List Int) (p : Nat) (b : Int) : Bool := decide (p < c.length) && (c.getD p 0 == b)
def fracEnd (c : List Int) (p : Nat) : Option Nat := if isAt c p 46 then (if isD c (p + 1) then some (dend c (p + 1)) else none) else some p
def expSign (c : List Int) (p : Nat) : Nat := if isAt c p 43 || isAt c p 45 then p + 1 else p
def expEnd (c : List Int) (p : Nat) : Option Nat :=
  if isAt c p 101 || isAt c p 69 then (if isD c (expSign c (p + 1)) then some (dend c (expSign c (p + 1))) else none) else some p
/-- where the number that begins at p ends -/
def numEnd (c : List Int) (p : Nat) : Option Nat :=
  if isD c (sign c p) then (fracEnd c (intEnd c (sign c p))).bind (expEnd c) else none
def number (c : List Int) (p : Nat) : Option Piece := (numEnd c p).map fun e => ⟨e - p, (c.drop p).take (e - p)⟩

/-! ### a value -/
structure MR where
  p : Nat
  out : List Int
  ln : Nat
  dp : Nat

def trueW : List Int := [116, 114, 117, 101]
def falseW : List Int := [102, 97, 108, 115, 101]
def nullW : List Int := [110, 117, 108, 108]

def ofPiece (p : Nat) (o : List Int) (r : Option Piece) : Option MR := r.map fun r => ⟨p + r.n, o ++ r.out, 0, 0⟩

/-- a key, its colon and the space behind it (an object's element): where the element's value begins, and what is written -/
def key (c : List Int) (p : Nat) : Option Piece :=
  if isAt c p 34 then
    match str c (p + 1) with
    | none => none
    | some r => if isAt c (p + 1 + r.n) 58 then some ⟨1 + r.n + 1, 34 :: (r.out ++ [58, 32])⟩ else none
  else none

/-- what closes what b opens -/
def closerOf (b : Int) : Int := if b = 123 then 125 else 93

/-- The model: a value (loop = none), or a container's elements from p on (loop = some (closer, object)). The outer 'none': out of fuel; the inner: no value. -/
def mj (c pre ind : List Int) : Nat → Option (Int × Bool) → Nat → Nat → Option (Option MR)
  | 0, _, _, _ => none
  | f + 1, none, p, d =>
    if p < c.length then
      let b := c.getD p 0
      if b = 123 ∨ b = 91 then
        if isAt c (p + 1) (closerOf b) then some (some ⟨p + 2, [b, closerOf b], 0, 0⟩)
        else match mj c pre ind f (some (closerOf b, b == 123)) (p + 1) d with
          | none => none
          | some none => some none
          | some (some r) => some (some ⟨r.p, b :: r.out, r.ln, r.dp⟩)
      else if b = 34 then some (ofPiece (p + 1) [34] (str c (p + 1)))
      else if b = 116 then some (ofPiece p [] (word c p trueW))
      else if b = 102 then some (ofPiece p [] (word c p falseW))
      else if b = 110 then some (ofPiece p [] (word c p nullW))
      else some (ofPiece p [] (number c p))
    else some none
  | f + 1, some (closer, obj), p, d =>
    match (if obj then key c p else some ⟨0, []⟩) with
    | none => some none
    | some k =>
      match mj c pre ind f none (p + k.n) (d + 1) with
      | none => none
      | some none => some none
      | some (some r) =>
        if isAt c r.p 44 then
          match mj c pre ind f (some (closer, obj)) (r.p + 1) d with
          | none => none
          | some none => some none
          | some (some q) => some (some ⟨q.p, nl pre ind (d + 1) ++ (k.out ++ (r.out ++ (44 :: q.out))), 1 + r.ln + q.ln, max (d + 1) (max r.dp q.dp)⟩)
        else if isAt c r.p closer then some (some ⟨r.p + 1, nl pre ind (d + 1) ++ (k.out ++ (r.out ++ (nl pre ind d ++ [closer]))), 1 + r.ln + 1, max (d + 1) r.dp⟩)
        else some none

end Go.Proofs.Qxb6603067a.Plain
