/-
  PLAIN: a container's round; what a reader's answer is made of; the model's cells.
-/
import Derived.Test.Qxb6603067aVWalk
namespace Go.Proofs.Qxb6603067a
open Go.RowKit
open Plain

theorem MI.cell0 {w : World} {m : Mod} {out : List Int} {ln dp b off : Nat} (h : MI w m out ln dp) (ha : m.a = some ⟨b, off, none⟩) : w.cell? ⟨m.M, 0, none⟩ = some (.slice (some ⟨b, off, none⟩) m.len m.cap) := by
  rw [← ha]; exact h.c0
theorem MI.byte {w : World} {m : Mod} {out : List Int} {ln dp b off : Nat} (h : MI w m out ln dp) (ha : m.a = some ⟨b, off, none⟩) {i : Nat} (hi : i < m.len) {z : Int} (hz : m.zs.getD i 0 = z) : w.cell? ⟨b, off + i, none⟩ = some (.int .u8 z) := by
  rcases h.bytes.2 with h0 | ⟨b', off', ha', hb', hc⟩
  · omega
  · rw [ha] at ha'
    cases ha'
    rw [← hz]
    exact hc i hi

theorem MrRel.yes {m : Mod} {out : List Int} {ln dp : Nat} {r : MR} {q : Nat} {b : Bool} {O : List Int} {l' d' : Nat} (h : MrRel m out ln dp (some r) q b O l' d') : b = true ∧ q = r.p ∧ O = out ++ em m.emit r.out ∧ l' = ln + r.ln ∧ d' = max dp r.dp := by
  rcases h with ⟨h1, r', h2, h3⟩ | ⟨_, h2⟩
  · cases h2
    exact ⟨h1, h3⟩
  · cases h2
theorem MrRel.no {m : Mod} {out : List Int} {ln dp : Nat} {q : Nat} {b : Bool} {O : List Int} {l' d' : Nat} (h : MrRel m out ln dp none q b O l' d') : b = false := by
  rcases h with ⟨_, r', h2, _⟩ | ⟨h1, _⟩
  · cases h2
  · exact h1

theorem Room.sub {m : Mod} {O : List Int} {P : Option MR} (h : Room m O P) {xs : List Int} (hx : ∀ r, P = some r → xs.length ≤ r.out.length) : (O ++ em m.emit xs).length + m.len + 20 ≤ 140737488355328 := by
  rw [List.length_append]
  unfold em
  split
  · rename_i he
    obtain ⟨r, hr, hl⟩ := h.2 he
    have := hx r hr
    omega
  · have := h.1
    simp only [List.length_nil]
    omega

/-- the answers of P' from the state (O, l', d') are answers of P from (out, ln, dp) -/
def Tie (m : Mod) (out : List Int) (ln dp : Nat) (P : Option MR) (O : List Int) (l' d' : Nat) (P' : Option MR) : Prop :=
  ∀ q b O2 l2 d2, MrRel m O l' d' P' q b O2 l2 d2 → MrRel m out ln dp P q b O2 l2 d2
theorem Tie.trans {m : Mod} {out : List Int} {ln dp : Nat} {P : Option MR} {O : List Int} {l' d' : Nat} {P' : Option MR} {O2 : List Int} {l2 d2 : Nat} {P2 : Option MR} (h : Tie m out ln dp P O l' d' P') (k : Tie m O l' d' P' O2 l2 d2 P2) : Tie m out ln dp P O2 l2 d2 P2 :=
  fun q b O3 l3 d3 hr => h q b O3 l3 d3 (k q b O3 l3 d3 hr)

theorem Tie.add {m : Mod} {O : List Int} {l' d' : Nat} {Q : Option MR} (X : List Int) (a e : Nat) {P' : Option MR} (hP : P' = Q.map fun r => ⟨r.p, X ++ r.out, a + r.ln, max e r.dp⟩) : Tie m O l' d' P' (O ++ em m.emit X) (l' + a) (max d' e) Q := by
  subst hP
  rintro q b O3 l3 d3 (⟨hb, r, rfl, rfl, rfl, rfl, rfl⟩ | ⟨hb, rfl⟩)
  · exact .inl ⟨hb, _, rfl, rfl, by simp [em_append, List.append_assoc], by simp <;> omega, by simp <;> omega⟩
  · exact .inr ⟨hb, rfl⟩

theorem Room.add {m : Mod} {O : List Int} {Q P' : Option MR} (X : List Int) (a e : Nat) (hP : P' = Q.map fun r => ⟨r.p, X ++ r.out, a + r.ln, max e r.dp⟩) (h : Room m O P') : Room m (O ++ em m.emit X) Q := by
  subst hP
  refine ⟨?_, fun he => ?_⟩
  · have := h.sub (xs := X) (fun r hr => by
      cases Q with
      | none => cases hr
      | some q => cases hr; simp)
    exact this
  · obtain ⟨r, hr, hl⟩ := h.2 he
    cases Q with
    | none => cases hr
    | some q =>
      cases hr
      refine ⟨q, rfl, ?_⟩
      simp only [List.length_append] at hl ⊢
      simp only [em, he, if_true]
      omega

/-- what an element begins with -/
def keyOf (c : List Int) (obj : Bool) (q : Nat) : Option Piece := if obj then key c q else some ⟨0, []⟩

theorem mj_round {c pre ind : List Int} {g : Nat} {closer : Int} {obj : Bool} {q d : Nat} {P' : Option MR} (h : mj c pre ind g (some (closer, obj)) q d = some P') :
    ∃ g', g = g' + 1 ∧ ((keyOf c obj q = none ∧ P' = none) ∨ ∃ k, keyOf c obj q = some k ∧ ∃ V, mj c pre ind g' none (q + k.n) (d + 1) = some V ∧
      ((V = none ∧ P' = none) ∨ ∃ r, V = some r ∧
        ((isAt c r.p 44 = true ∧ ∃ Q, mj c pre ind g' (some (closer, obj)) (r.p + 1) d = some Q ∧ P' = Q.map fun x => ⟨x.p, (nl pre ind (d + 1) ++ k.out ++ r.out ++ [44]) ++ x.out, (1 + r.ln) + x.ln, max (max (d + 1) r.dp) x.dp⟩) ∨
         (isAt c r.p 44 = false ∧ isAt c r.p closer = true ∧ P' = some ⟨r.p + 1, nl pre ind (d + 1) ++ k.out ++ r.out ++ nl pre ind d ++ [closer], 1 + r.ln + 1, max (d + 1) r.dp⟩) ∨
         (isAt c r.p 44 = false ∧ isAt c r.p closer = false ∧ P' = none)))) := by
  cases g with
  | zero => simp [mj] at h
  | succ g' =>
    refine ⟨g', rfl, ?_⟩
    simp only [mj] at h
    have hk : (if obj = true then key c q else some ⟨0, []⟩) = keyOf c obj q := rfl
    rw [hk] at h
    cases hkk : keyOf c obj q with
    | none => rw [hkk] at h; cases h; exact .inl ⟨rfl, rfl⟩
    | some k =>
      rw [hkk] at h
      simp only at h
      refine .inr ⟨k, rfl, ?_⟩
      cases hv : mj c pre ind g' none (q + k.n) (d + 1) with
      | none => rw [hv] at h; cases h
      | some V =>
        rw [hv] at h
        refine ⟨V, rfl, ?_⟩
        cases V with
        | none => cases h; exact .inl ⟨rfl, rfl⟩
        | some r =>
          simp only at h
          refine .inr ⟨r, rfl, ?_⟩
          split at h
          · rename_i h44
            cases hq : mj c pre ind g' (some (closer, obj)) (r.p + 1) d with
            | none => rw [hq] at h; cases h
            | some Q =>
              rw [hq] at h
              refine .inl ⟨h44, Q, rfl, ?_⟩
              cases Q with
              | none => cases h; rfl
              | some x => cases h; simp [List.append_assoc, Nat.max_assoc]
          · rename_i h44
            have h44' : isAt c r.p 44 = false := by simpa using h44
            split at h
            · rename_i hcl
              refine .inr (.inl ⟨h44', hcl, ?_⟩)
              cases h; simp [List.append_assoc]
            · rename_i hcl
              refine .inr (.inr ⟨h44', by simpa using hcl, ?_⟩)
              cases h; rfl

theorem keyOf_obj {c : List Int} {q : Nat} {k : Piece} (h : keyOf c true q = some k) : q < c.length ∧ c.getD q 0 = 34 ∧ ∃ r, str c (q + 1) = some r ∧ q + 1 + r.n < c.length ∧ c.getD (q + 1 + r.n) 0 = 58 ∧ k = ⟨1 + r.n + 1, 34 :: (r.out ++ [58, 32])⟩ := by
  unfold keyOf key at h
  simp only [if_true] at h
  split at h
  · rename_i h34
    obtain ⟨h1, h2⟩ := (isAt_iff _ _ _).1 h34
    refine ⟨h1, h2, ?_⟩
    cases hs : str c (q + 1) with
    | none => rw [hs] at h; cases h
    | some r =>
      rw [hs] at h
      simp only at h
      split at h
      · rename_i h58
        obtain ⟨h3, h4⟩ := (isAt_iff _ _ _).1 h58
        exact ⟨r, rfl, h3, h4, by cases h; rfl⟩
      · cases h
  · cases h

theorem keyOf_none {c : List Int} {obj : Bool} {q : Nat} (h : keyOf c obj q = none) : obj = true ∧ (isAt c q 34 = false ∨ (isAt c q 34 = true ∧ str c (q + 1) = none) ∨ (isAt c q 34 = true ∧ ∃ r, str c (q + 1) = some r ∧ isAt c (q + 1 + r.n) 58 = false)) := by
  unfold keyOf at h
  cases obj
  · simp at h
  · refine ⟨rfl, ?_⟩
    simp only [if_true] at h
    unfold key at h
    cases h34 : isAt c q 34
    · exact .inl rfl
    · rw [h34] at h
      simp only [if_true] at h
      cases hs : str c (q + 1) with
      | none => exact .inr (.inl ⟨rfl, rfl⟩)
      | some r =>
        rw [hs] at h
        simp only at h
        refine .inr (.inr ⟨rfl, r, rfl, ?_⟩)
        split at h
        · cases h
        · rename_i h58; simpa using h58

theorem mj_con {c pre ind : List Int} {f p d : Nat} {P : Option MR} (b : Int) (h : mj c pre ind f none p d = some P) (hp : p < c.length) (hb : c.getD p 0 = b) (h1 : b = 123 ∨ b = 91) :
    ∃ g, f = g + 1 ∧ ((isAt c (p + 1) (closerOf b) = true ∧ P = some ⟨p + 2, [b, closerOf b], 0, 0⟩) ∨
      (isAt c (p + 1) (closerOf b) = false ∧ ∃ Q, mj c pre ind g (some (closerOf b, b == 123)) (p + 1) d = some Q ∧ P = Q.map fun x => ⟨x.p, [b] ++ x.out, 0 + x.ln, max 0 x.dp⟩)) := by
  cases f with
  | zero => simp [mj] at h
  | succ g =>
    refine ⟨g, rfl, ?_⟩
    simp only [mj] at h
    rw [if_pos hp, hb, if_pos h1] at h
    split at h
    · rename_i hc
      exact .inl ⟨hc, by cases h; rfl⟩
    · rename_i hc
      refine .inr ⟨by simpa using hc, ?_⟩
      cases hq : mj c pre ind g (some (closerOf b, b == 123)) (p + 1) d with
      | none => rw [hq] at h; cases h
      | some Q =>
        rw [hq] at h
        refine ⟨Q, rfl, ?_⟩
        cases Q with
        | none => cases h; rfl
        | some x => cases h; simp

/-- the three ways that lie behind an element's value -/
def Ways (m : Mod) (cl : Int) (ob : Bool) (d : Nat) (g' : Nat) (k : Piece) (V P' : Option MR) : Prop :=
  (V = none ∧ P' = none) ∨ ∃ r, V = some r ∧
        ((isAt m.zs r.p 44 = true ∧ ∃ Q, mj m.zs (sbytes m.pre) (sbytes m.ind) g' (some (cl, ob)) (r.p + 1) d = some Q ∧ P' = Q.map fun x => ⟨x.p, (nl (sbytes m.pre) (sbytes m.ind) (d + 1) ++ k.out ++ r.out ++ [44]) ++ x.out, (1 + r.ln) + x.ln, max (max (d + 1) r.dp) x.dp⟩) ∨
         (isAt m.zs r.p 44 = false ∧ isAt m.zs r.p cl = true ∧ P' = some ⟨r.p + 1, nl (sbytes m.pre) (sbytes m.ind) (d + 1) ++ k.out ++ r.out ++ nl (sbytes m.pre) (sbytes m.ind) d ++ [cl], 1 + r.ln + 1, max (d + 1) r.dp⟩) ∨
         (isAt m.zs r.p 44 = false ∧ isAt m.zs r.p cl = false ∧ P' = none))

theorem Ways.head {m : Mod} {cl : Int} {ob : Bool} {d g' : Nat} {k : Piece} {V P' : Option MR} (h : Ways m cl ob d g' k V P') : ∀ r', P' = some r' → (nl (sbytes m.pre) (sbytes m.ind) (d + 1) ++ k.out).length ≤ r'.out.length := by
  intro r' hr'
  rcases h with ⟨_, rfl⟩ | ⟨r, _, ⟨_, Q, _, rfl⟩ | ⟨_, _, rfl⟩ | ⟨_, _, rfl⟩⟩
  · cases hr'
  · cases Q with
    | none => cases hr'
    | some x => cases hr'; simp only [List.length_append]; omega
  · cases hr'; simp only [List.length_append]; omega
  · cases hr'

theorem Ways.room {m : Mod} {cl : Int} {ob : Bool} {d g' : Nat} {k : Piece} {V P' : Option MR} {O : List Int} (h : Ways m cl ob d g' k V P') (hr : Room m O P') : Room m (O ++ em m.emit (nl (sbytes m.pre) (sbytes m.ind) (d + 1)) ++ em m.emit k.out) V := by
  refine ⟨?_, fun he => ?_⟩
  · have := hr.sub h.head
    rw [em_append, ← List.append_assoc] at this
    exact this
  · obtain ⟨r', hr', hl⟩ := hr.2 he
    have e : ∀ xs, em m.emit xs = xs := fun xs => by simp [em, he]
    simp only [e]
    rcases h with ⟨_, rfl⟩ | ⟨r, hV, ⟨_, Q, _, rfl⟩ | ⟨_, _, rfl⟩ | ⟨_, _, rfl⟩⟩
    · cases hr'
    · cases Q with
      | none => cases hr'
      | some x => cases hr'; exact ⟨r, hV, by simp only [List.length_append] at hl ⊢; omega⟩
    · cases hr'; exact ⟨r, hV, by simp only [List.length_append] at hl ⊢; omega⟩
    · cases hr'
end Go.Proofs.Qxb6603067a
