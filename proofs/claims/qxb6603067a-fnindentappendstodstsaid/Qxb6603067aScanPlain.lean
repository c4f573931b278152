/-
  THE PLAIN LAW of (*scanner).scan: one byte a step; no Go in sight.
-/
namespace Go.Proofs.Qxb6603067a.Plain

/-- What one byte does to the scanner's state (depth, inString, escaped), and whether the value ends with it; 'up', 'dn': the next and the former depth, as Go's int counts. -/
structure St where
  ended : Bool
  d : Int
  s : Bool
  e : Bool

def byte1 (up dn : Int → Int) (d : Int) (s e : Bool) (b : Int) : St :=
  if e then ⟨false, d, s, false⟩
  else if s then
    if b = 92 then ⟨false, d, s, true⟩
    else if b = 34 then ⟨decide (d = 0), d, false, e⟩
    else ⟨false, d, s, e⟩
  else if b = 34 then ⟨false, d, true, e⟩
  else if b = 123 ∨ b = 91 then ⟨false, up d, s, e⟩
  else if b = 125 ∨ b = 93 then ⟨decide (dn d = 0), dn d, s, e⟩
  else ⟨false, d, s, e⟩

/-- What a run of scan over a list of bytes answers: how many bytes, whether the value ended, the state that is left. -/
structure Ans where
  n : Nat
  ended : Bool
  d : Int
  s : Bool
  e : Bool

def Ans.more (a : Ans) (k : Nat) : Ans := { a with n := a.n + k }

def scan (up dn : Int → Int) : List Int → Int → Bool → Bool → Ans
  | [], d, s, e => ⟨0, false, d, s, e⟩
  | b :: bs, d, s, e =>
    let r := byte1 up dn d s e b
    if r.ended then ⟨1, true, r.d, r.s, r.e⟩ else (scan up dn bs r.d r.s r.e).more 1

theorem Ans.more_more (a : Ans) (j k : Nat) : (a.more j).more k = a.more (j + k) := by
  simp [Ans.more, Nat.add_assoc]

theorem Ans.more_zero (a : Ans) : a.more 0 = a := rfl

theorem scan_le (up dn : Int → Int) (l : List Int) : ∀ d s e, (scan up dn l d s e).n ≤ l.length := by
  induction l with
  | nil => intro d s e; simp [scan]
  | cons b bs ih =>
    intro d s e
    simp only [scan]
    split
    · simp
    · simp only [Ans.more, List.length_cons]; have := ih (byte1 up dn d s e b).d (byte1 up dn d s e b).s (byte1 up dn d s e b).e; omega

/-- a value that has not ended takes all bytes. -/
theorem scan_all (up dn : Int → Int) (l : List Int) : ∀ d s e, (scan up dn l d s e).ended = false → (scan up dn l d s e).n = l.length := by
  induction l with
  | nil => intro d s e _; simp [scan]
  | cons b bs ih =>
    intro d s e
    simp only [scan]
    split
    · simp
    · intro h
      simp only [Ans.more] at h ⊢
      simp [ih _ _ _ h]

/-- TWO PIECES: the first ends: the whole answers as it does. -/
theorem scan_append_ended (up dn : Int → Int) (l m : List Int) : ∀ d s e, (scan up dn l d s e).ended = true → scan up dn (l ++ m) d s e = scan up dn l d s e := by
  induction l with
  | nil => intro d s e h; simp [scan] at h
  | cons b bs ih =>
    intro d s e
    simp only [scan, List.cons_append]
    split
    · simp
    · intro h
      simp only [Ans.more] at h
      rw [ih _ _ _ h]

/-- TWO PIECES: the first does not end: the whole answers as the second, begun in the state that the first has left. -/
theorem scan_append_goes (up dn : Int → Int) (l m : List Int) : ∀ d s e, (scan up dn l d s e).ended = false →
    scan up dn (l ++ m) d s e = (scan up dn m (scan up dn l d s e).d (scan up dn l d s e).s (scan up dn l d s e).e).more l.length := by
  induction l with
  | nil => intro d s e _; simp [scan, Ans.more]
  | cons b bs ih =>
    intro d s e
    simp only [scan, List.cons_append]
    split
    · simp
    · intro h
      simp only [Ans.more] at h
      rw [ih _ _ _ h]
      simp only [Ans.more, List.length_cons, Nat.add_assoc]

end Go.Proofs.Qxb6603067a.Plain
