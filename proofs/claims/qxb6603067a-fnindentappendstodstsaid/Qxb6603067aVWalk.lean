/-
  THE WALK of the layout model's value (30), given its containers.
-/
import Derived.Test.Qxb6603067aSWalk
import Derived.Test.Qxb6603067aNumE
namespace Go.Proofs.Qxb6603067a
open Go.RowKit
open Plain

/-- what a reader of a value has answered: q, b; what lies in the model then: O, ln', dp' -/
def MrRel (m : Mod) (out : List Int) (ln dp : Nat) (P : Option MR) (q : Nat) (b : Bool) (O : List Int) (ln' dp' : Nat) : Prop :=
  (b = true ∧ ∃ r, P = some r ∧ q = r.p ∧ O = out ++ em m.emit r.out ∧ ln' = ln + r.ln ∧ dp' = max dp r.dp) ∨ (b = false ∧ P = none)
def MrPost (m : Mod) (out : List Int) (ln dp : Nat) (w : World) (P : Option MR) (x : Ending) (w' : World) : Prop :=
  ∃ (q : Nat) (b : Bool) (O : List Int) (ln' dp' : Nat), x = .returned (.tuple #[.int .i64 q, .bool b]) ∧ MI w' m O ln' dp' ∧ Below m.M w w' ∧ Hid (MrRel m out ln dp P q b O ln' dp')
/-- there is room for what is written -/
def Room (m : Mod) (out : List Int) (P : Option MR) : Prop :=
  out.length + m.len + 20 ≤ 140737488355328 ∧ (m.emit = true → ∃ r, P = some r ∧ out.length + r.out.length + m.len + 20 ≤ 140737488355328)

theorem MrPost.ofPc {m : Mod} {out : List Int} {ln dp : Nat} {w : World} {p : Nat} {Q : Option Piece} {x : Ending} {w' : World} (h : PcPost m out ln dp w p Q x w') : MrPost m out ln dp w (ofPiece p [] Q) x w' := by
  rcases h with ⟨r, hr, hx, hm, hb⟩ | ⟨hr, q, O, hx, hm, hb⟩
  · exact ⟨_, _, _, _, _, hx, hm, hb, .inl ⟨rfl, ⟨p + r.n, [] ++ r.out, 0, 0⟩, by rw [hr]; rfl, rfl, rfl, rfl, by simp⟩⟩
  · exact ⟨_, _, _, _, _, hx, hm, hb, .inr ⟨rfl, by rw [hr]; rfl⟩⟩
theorem MrPost.ofStr {m : Mod} {out : List Int} {ln dp : Nat} {w : World} {p : Nat} {x : Ending} {w' : World} (h : StrPost m out ln dp w p x w') : MrPost m out ln dp w (ofPiece p [34] (str m.zs p)) x w' := by
  rcases h with ⟨r, hr, hx, hm, hb⟩ | ⟨hr, q, O, hx, hm, hb⟩
  · exact ⟨_, _, _, _, _, hx, hm, hb, .inl ⟨rfl, ⟨p + r.n, [34] ++ r.out, 0, 0⟩, by rw [hr]; rfl, rfl, rfl, rfl, by simp⟩⟩
  · exact ⟨_, _, _, _, _, hx, hm, hb, .inr ⟨rfl, by rw [hr]; rfl⟩⟩

def ValOk (m : Mod) (f : Nat) : Prop := ∀ (out : List Int) (ln dp p d : Nat) (P : Option MR) (w : World), MI w m out ln dp → d ≤ p → ln ≤ p → p ≤ m.len →
  mj m.zs (sbytes m.pre) (sbytes m.ind) f none p d = some P → Room m out P →
  Calls Try.prog 30 #[.pointer (some ⟨m.M, 0, none⟩), .int .i64 p, .int .i64 d] w (MrPost m out ln dp w P)
def ConOk (m : Mod) (f : Nat) : Prop := ∀ (out : List Int) (ln dp p d : Nat) (P : Option MR) (b : Int) (w : World), MI w m out ln dp → d ≤ p → ln ≤ p → p < m.len → m.zs.getD p 0 = b → (b = 123 ∨ b = 91) →
  mj m.zs (sbytes m.pre) (sbytes m.ind) f none p d = some P → Room m out P →
  Calls Try.prog 41 #[.pointer (some ⟨m.M, 0, none⟩), .int .i64 p, .int .i64 d, .int .u8 (closerOf b), .bool (b == 123)] w (MrPost m out ln dp w P)

theorem mj_out {c pre ind : List Int} {f p d : Nat} {P : Option MR} (h : mj c pre ind f none p d = some P) (hp : c.length ≤ p) : P = none := by
  cases f with
  | zero => simp [mj] at h
  | succ f =>
    simp only [mj] at h
    rw [if_neg (by omega)] at h
    cases h; rfl
theorem mj_leaf {c pre ind : List Int} {f p d : Nat} {P : Option MR} (b : Int) (h : mj c pre ind f none p d = some P) (hp : p < c.length) (hb : c.getD p 0 = b) (h1 : b ≠ 123) (h2 : b ≠ 91) :
    P = if b = 34 then ofPiece (p + 1) [34] (str c (p + 1)) else if b = 116 then ofPiece p [] (word c p trueW) else if b = 102 then ofPiece p [] (word c p falseW) else if b = 110 then ofPiece p [] (word c p nullW) else ofPiece p [] (number c p) := by
  cases f with
  | zero => simp [mj] at h
  | succ f =>
    simp only [mj] at h
    rw [if_pos hp, hb, if_neg (by omega)] at h
    split at h
    · rename_i e; rw [if_pos e]; cases h; rfl
    · rename_i e; rw [if_neg e]
      split at h
      · rename_i e; rw [if_pos e]; cases h; rfl
      · rename_i e; rw [if_neg e]
        split at h
        · rename_i e; rw [if_pos e]; cases h; rfl
        · rename_i e; rw [if_neg e]
          split at h
          · rename_i e; rw [if_pos e]; cases h; rfl
          · rename_i e; rw [if_neg e]; cases h; rfl

theorem sb_true : sbytes { data := #[116, 114, 117, 101] } = trueW := rfl
theorem sb_false : sbytes { data := #[102, 97, 108, 115, 101] } = falseW := rfl
theorem sb_null : sbytes { data := #[110, 117, 108, 108] } = nullW := rfl

set_option maxRecDepth 10000 in
set_option maxHeartbeats 4000000 in
theorem value_of (m : Mod) (f : Nat) (hlen : m.len ≤ 1048576) (hC : ConOk m f) : ValOk m f := by
  intro out ln dp p d P w h hd hln hp hmj hroom
  have hzl := h.bytes.1
  have HC : Hid _ := hC
  clear hC
  have HMJ : Hid _ := hmj
  clear hmj
  have HR : Hid _ := hroom
  have hol : out.length + m.len + 20 ≤ 140737488355328 := hroom.1
  clear hroom
  by_cases hlt : p < m.len
  · obtain ⟨b, off, ha, hbW, c0, HB⟩ := h.open_ (by omega)
    have hcp := HB.out p hlt
    obtain ⟨z, hz⟩ : ∃ z, m.zs.getD p 0 = z := ⟨_, rfl⟩
    rw [hz] at hcp
    have HZ : Hid _ := hz
    clear hz
    by_cases h1 : z = 123
    · subst h1
      go_enter Try.func30, Try.ntmps30
      go_wp2_with (go_at_call 41; refine (HC.out out ln dp p d P 123 _ h hd hln hlt HZ.out (.inl rfl) HMJ.out HR.out).mono ?_; rintro x w5 ⟨q5, b5, O5, l5, d5, rfl, h5, hb5, HM⟩)
      go_ret2
      exact ⟨q5, b5, O5, l5, d5, rfl, h5, hb5, HM⟩
    by_cases h2 : z = 91
    · subst h2
      go_enter Try.func30, Try.ntmps30
      go_wp2_with (go_at_call 41; refine (HC.out out ln dp p d P 91 _ h hd hln hlt HZ.out (.inr rfl) HMJ.out HR.out).mono ?_; rintro x w5 ⟨q5, b5, O5, l5, d5, rfl, h5, hb5, HM⟩)
      go_ret2
      exact ⟨q5, b5, O5, l5, d5, rfl, h5, hb5, HM⟩
    have hP := mj_leaf z HMJ.out (by rw [hzl]; exact hlt) HZ.out h1 h2
    clear HMJ HC HR
    by_cases h3 : z = 34
    · subst h3
      rw [if_pos rfl] at hP
      subst hP
      go_enter Try.func30, Try.ntmps30
      go_wp2_with (go_at_call 42; refine (str_any m out ln dp p _ h hlen (by omega) hol).mono ?_; intro x w5 hx5; obtain ⟨q5, b5, O5, l5, d5, rfl, h5, hb5, HM⟩ := MrPost.ofStr hx5)
      go_ret2
      exact ⟨q5, b5, O5, l5, d5, rfl, h5, hb5, HM⟩
    rw [if_neg h3] at hP
    by_cases h4 : z = 116
    · subst h4
      rw [if_pos rfl, ← sb_true] at hP
      subst hP
      go_enter Try.func30, Try.ntmps30
      go_wp2_with (go_at_call 43; refine (word_any m out ln dp p _ _ h hlen hlt (by decide) hol).mono ?_; intro x w5 hx5; obtain ⟨q5, b5, O5, l5, d5, rfl, h5, hb5, HM⟩ := MrPost.ofPc hx5)
      go_ret2
      exact ⟨q5, b5, O5, l5, d5, rfl, h5, hb5, HM⟩
    rw [if_neg h4] at hP
    by_cases h5 : z = 102
    · subst h5
      rw [if_pos rfl, ← sb_false] at hP
      subst hP
      go_enter Try.func30, Try.ntmps30
      go_wp2_with (go_at_call 43; refine (word_any m out ln dp p _ _ h hlen hlt (by decide) hol).mono ?_; intro x w5 hx5; obtain ⟨q5, b5, O5, l5, d5, rfl, h5, hb5, HM⟩ := MrPost.ofPc hx5)
      go_ret2
      exact ⟨q5, b5, O5, l5, d5, rfl, h5, hb5, HM⟩
    rw [if_neg h5] at hP
    by_cases h6 : z = 110
    · subst h6
      rw [if_pos rfl, ← sb_null] at hP
      subst hP
      go_enter Try.func30, Try.ntmps30
      go_wp2_with (go_at_call 43; refine (word_any m out ln dp p _ _ h hlen hlt (by decide) hol).mono ?_; intro x w5 hx5; obtain ⟨q5, b5, O5, l5, d5, rfl, h5, hb5, HM⟩ := MrPost.ofPc hx5)
      go_ret2
      exact ⟨q5, b5, O5, l5, d5, rfl, h5, hb5, HM⟩
    rw [if_neg h6] at hP
    subst hP
    have e1 : (z == 123) = false := by simpa using h1
    have e2 : (z == 91) = false := by simpa using h2
    have e3 : (z == 34) = false := by simpa using h3
    have e4 : (z == 116) = false := by simpa using h4
    have e5 : (z == 102) = false := by simpa using h5
    have e6 : (z == 110) = false := by simpa using h6
    clear h1 h2 h3 h4 h5 h6
    go_enter Try.func30, Try.ntmps30
    go_wp2_with (go_at_call 44; refine (number_any m out ln dp p _ h hlen hlt hol).mono ?_; intro x w5 hx5; obtain ⟨q5, b5, O5, l5, d5, rfl, h5, hb5, HM⟩ := MrPost.ofPc hx5)
    go_ret2
    exact ⟨q5, b5, O5, l5, d5, rfl, h5, hb5, HM⟩
  · have hP : P = none := mj_out HMJ.out (by rw [hzl]; omega)
    subst hP
    have c0 := h.c0
    clear HMJ HC HR
    go_enter Try.func30, Try.ntmps30
    go_wp2
    go_ret2
    exact ⟨p, false, out, ln, dp, rfl, h, Below.refl _ _, .inr ⟨rfl, rfl⟩⟩
end Go.Proofs.Qxb6603067a
