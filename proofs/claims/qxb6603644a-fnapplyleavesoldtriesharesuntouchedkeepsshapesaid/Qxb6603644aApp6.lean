/-
  apply (22), whole; ZZapply (9).
-/
import Derived.Test.Qxb6603644aApp5
namespace Go.Proofs.Qxb6603644a
open Go.RowKit Go.Shelf

theorem apply_any : ∀ (d : Nat) (P : Int) (t : Tr) (w : World) (N : Nat → Prop) (b off n cap : Nat) (cs : List C), 0 < n → AH d P t w N b off n cap cs →
    Calls Try.prog 22 #[.pointer t.ptr, .int .i64 (4 * d : Nat), .slice (some ⟨b, off, none⟩) n cap] w fun x w' => ∃ t', x = .returned (.pointer t'.ptr) ∧ AP d t w N b off n cs t' w' := by
  intro d
  induction d with
  | zero =>
    intro P t w N b off n cap cs h0 hA
    cases t with
    | nil => exact apply_nil hA h0
    | leaf g rs => exact apply_leaf hA h0
    | inner g ch c =>
      obtain ⟨d', hd, _⟩ := hA.good
      omega
  | succ d ih =>
    intro P t w N b off n cap cs h0 hA
    cases t with
    | nil => exact apply_nil hA h0
    | leaf g rs => exact apply_leaf hA h0
    | inner g ch c => exact apply_inner hA h0 ih

set_option maxRecDepth 10000 in
theorem zzapply_any {d : Nat} {P : Int} {t : Tr} {w : World} {N : Nat → Prop} {b off n cap : Nat} {cs : List C} (h0 : 0 < n) (hA : AH d P t w N b off n cap cs) :
    Calls Try.prog 9 #[.pointer t.ptr, .int .i64 (4 * d : Nat), .slice (some ⟨b, off, none⟩) n cap] w fun x w' => ∃ t', x = .returned (.pointer t'.ptr) ∧ AP d t w N b off n cs t' w' := by
  have hcall := apply_any d P t w N b off n cap cs h0 hA
  clear hA
  obtain ⟨p, hp⟩ : ∃ p, t.ptr = p := ⟨_, rfl⟩
  rw [hp] at hcall ⊢
  clear hp
  go_enter Try.func9, Try.ntmps9
  go_wp2_with (go_at_call 22; refine hcall.mono ?_; rintro x1 w1 ⟨t', rfl, hP⟩)
  go_ret
  exact ⟨t', rfl, hP⟩
theorem zzapply_empty {d : Nat} {t : Tr} {w : World} {N : Nat → Prop} {b off cap : Nat} {ao : Option Addr} (hT : IsT w N t) (hfz : ∀ o, w.frozen? ⟨b, o, none⟩ = false) (hb : b < w.heap.size) :
    Calls Try.prog 9 #[.pointer t.ptr, .int .i64 (4 * d : Nat), .slice ao 0 cap] w fun x w' => ∃ t', x = .returned (.pointer t'.ptr) ∧ AP d t w N b off 0 [] t' w' := by
  have hcall := apply_empty (d := d) (off := off) (cap := cap) (ao := ao) hT hfz hb
  obtain ⟨p, hp⟩ : ∃ p, t.ptr = p := ⟨_, rfl⟩
  rw [hp] at hcall ⊢
  clear hp hfz hT
  go_enter Try.func9, Try.ntmps9
  go_wp2_with (go_at_call 22; refine hcall.mono ?_; rintro x1 w1 ⟨t', rfl, hP⟩)
  go_ret
  exact ⟨t', rfl, hP⟩
end Go.Proofs.Qxb6603644a
