/-
  THE WALK of layout.text (33).
-/
import Derived.Test.Qxb6603067aTPlain
namespace Go.Proofs.Qxb6603067a
open Go.RowKit
open Plain

theorem BytesX.sub {w : World} {N : Nat} {row : Option Nat} {b off n : Nat} {zs : List Int} (h : BytesX w N row (some ⟨b, off, none⟩) n zs) (lo m : Nat) (hm : lo + m ≤ n) : Bytes w N (some ⟨b, off + lo, none⟩) m ((zs.drop lo).take m) := by
  obtain ⟨hz, h0 | ⟨b', off', ha, hb, hne, hc⟩⟩ := h
  · exact ⟨by simp; omega, .inl (by omega)⟩
  · cases ha
    refine ⟨by simp; omega, .inr ⟨b, off + lo, rfl, hb, fun i hi => ?_⟩⟩
    rw [Nat.add_assoc, hc (lo + i) (by omega)]
    simp [List.getD_eq_getElem?_getD, hi]

set_option maxRecDepth 10000 in
set_option maxHeartbeats 1000000 in
theorem text_plain (l : Lay) (d : Nat) (out : List Int) (k : Nat) (b off n cap : Nat) (zs : List Int) (w : World) (h : LI w l d out k) (hx : BytesX w l.N l.row (some ⟨b, off, none⟩) n zs) (hsz : out.length + n ≤ 140737488355328) :
    Calls Try.prog 33 #[.pointer (some ⟨l.B, 0, none⟩), .slice (some ⟨b, off, none⟩) n cap, .bool true] w fun x w' => x = .returned (.tuple #[]) ∧ LI w' l d (out ++ zs) k ∧ Keep l.N l.row w w' := by
  have h' := h
  obtain ⟨ao, co, al, cl, c0, c1, c2, c3, c4, f0, f3, f4, ho, hl, hN, hB, hr, hgg⟩ := h'
  have HX : Hid _ := hx.bytes
  have hzl : Hid (out.length + n = (out ++ zs).length) := by show _ = _; rw [List.length_append, hx.1]
  clear hl hgg hx
  go_enter Try.func33, Try.ntmps33
  go_wp2_with (at_builtin; refine wpList_app_bytes rfl _ _ rfl 0 _ out rfl ho _ n cap zs rfl _ HX.out (by simp) hsz (Nat.zero_le _) ?_; intro a2 c2' w2 ho2 hg2 hl2; obtain ⟨hLI, hKp, hc0', hf0'⟩ := h.wrote c0 hg2 ho2 hl2 hzl.out)
  go_end0
  exact ⟨rfl, hLI, hKp⟩

/-- The loop's state: no 92 lies in what was already written ahead of i. -/
def TOk (s : List Int) (frm i : Nat) : Prop := frm ≤ s.length ∧ (frm ≤ i ∨ ∀ j, i ≤ j → j < frm → s.getD j 0 ≠ 92)

theorem TOk.le {s : List Int} {frm i : Nat} (h : TOk s frm i) (_hi : i < s.length) (h92 : s.getD i 0 = 92) : frm ≤ i := by
  rcases h.2 with h1 | h1
  · exact h1
  · apply Nat.le_of_not_lt
    intro hlt
    exact h1 i (Nat.le_refl _) hlt h92

theorem TOk.next {s : List Int} {frm i : Nat} (h : TOk s frm i) (k : Nat) : TOk s frm (i + k) := by
  refine ⟨h.1, ?_⟩
  rcases h.2 with h1 | h1
  · exact .inl (by omega)
  · exact .inr (fun j hj => h1 j (by omega))

theorem htmlE_len {s : List Int} (h : htmlE s ≠ 0) : 6 ≤ s.length ∧ s.getD 2 0 ≠ 92 ∧ s.getD 3 0 ≠ 92 ∧ s.getD 4 0 ≠ 92 ∧ s.getD 5 0 ≠ 92 := by
  unfold htmlE at h
  split at h
  · exact absurd rfl h
  · rename_i hl
    match s, hl, h with
    | x0 :: x1 :: x2 :: x3 :: x4 :: x5 :: r, hl, h =>
      split at h
      · rename_i h4
        simp at h4
        refine ⟨by simp, by simp; omega, by simp; omega, ?_⟩
        split at h
        · rename_i q; simp at q ⊢; omega
        · split at h
          · rename_i q; simp at q ⊢; omega
          · split at h
            · rename_i q; simp at q ⊢; omega
            · exact absurd rfl h
      · exact absurd rfl h
    | [], hl, h | [_], hl, h | [_, _], hl, h | [_, _, _], hl, h | [_, _, _, _], hl, h | [_, _, _, _, _], hl, h => exact absurd (by simp) hl

theorem TOk.html {s : List Int} {i : Nat} (hi : i ≤ s.length) (h : htmlE (s.drop i) ≠ 0) : TOk s (i + 6) (i + 2) := by
  obtain ⟨h6, e2, e3, e4, e5⟩ := htmlE_len h
  have hl : (s.drop i).length = s.length - i := by simp
  have e : ∀ k, (s.drop i).getD k 0 = s.getD (i + k) 0 := fun k => by simp [List.getD_eq_getElem?_getD]
  rw [e] at e2 e3 e4 e5
  refine ⟨by omega, .inr (fun j h1 h2 => ?_)⟩
  rcases (show j = i + 2 ∨ j = i + 3 ∨ j = i + 4 ∨ j = i + 5 by omega) with rfl | rfl | rfl | rfl
  · exact e2
  · exact e3
  · exact e4
  · exact e5
end Go.Proofs.Qxb6603067a
