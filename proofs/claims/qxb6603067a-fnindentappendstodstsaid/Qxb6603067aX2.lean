/-
  THE WALK of layout.text's loop (33).
-/
import Derived.Test.Qxb6603067aXWalk
namespace Go.Proofs.Qxb6603067a
open Go.RowKit
open Plain

set_option maxRecDepth 10000 in
set_option maxHeartbeats 1000000 in
theorem text_loop (l : Lay) (d : Nat) (out : List Int) (k : Nat) (b off n cap : Nat) (zs : List Int) (w : World) (h : LI w l d out k) (hx : BytesX w l.N l.row (some ⟨b, off, none⟩) n zs) (hu : ∀ z ∈ zs, 0 ≤ z ∧ z ≤ 255)
    (hnc : n ≤ cap) (hcap : cap ≤ 1099511627776) (hsz : (out ++ tl zs 0 0).length ≤ 140737488355328) :
    Calls Try.prog 33 #[.pointer (some ⟨l.B, 0, none⟩), .slice (some ⟨b, off, none⟩) n cap, .bool false] w fun x w' => x = .returned (.tuple #[]) ∧ LI w' l d (out ++ tl zs 0 0) k ∧ Keep l.N l.row w w' := by
  have hzl : zs.length = n := hx.1
  have HZ : Hid _ := hzl
  have HU : Hid _ := hu
  have HX : Hid _ := hx
  have HS : Hid _ := hsz
  clear hzl hu hx hsz
  go_enter Try.func33, Try.ntmps33
  go_wp2
  go_loopw [6, 7] (fun f i wr => ∃ (F I : Nat) (O : List Int), f = .int .i64 F ∧ i = .int .i64 I ∧ F ≤ n ∧ Hid (TOk zs F I) ∧ Hid (O ++ tl zs F I = out ++ tl zs 0 0) ∧ LI wr l d O k ∧ Keep l.N l.row w wr) (fun _ i _ => n - (intOf i).toNat)
  case atStart => exact ⟨0, 0, out, rfl, rfl, Nat.zero_le _, ⟨Nat.zero_le _, .inl (Nat.le_refl _)⟩, rfl, h, Keep.refl _ _ w⟩
  case round =>
    obtain ⟨F, I, O, rfl, rfl, hF, hT, hO, hr, hK⟩ := hrel
    have hxr : BytesX wr l.N l.row (some ⟨b, off, none⟩) n zs := BytesX.later HX.out hK
    have HXR : Hid _ := hxr
    have h' := hr
    obtain ⟨ao, co, al, cl, c0, c1, c2, c3, c4, f0, f3, f4, ho, hl, hN, hB, hrow, hgg⟩ := h'
    clear h hl hgg
    by_cases hlt : I < n
    · have hcell : wr.cell? ⟨b, off + I, none⟩ = some (.int .u8 (zs.getD I 0)) := by
        obtain ⟨_, h0 | ⟨b', off', ha, hb, hne, hc⟩⟩ := hxr
        · omega
        · cases ha
          exact hc I hlt
      obtain ⟨z, hz⟩ : ∃ z, z = zs.getD I 0 := ⟨_, rfl⟩
      rw [← hz] at hcell
      have HZ1 : Hid _ := hz
      clear hz hxr
      cases e92 : (z != 92)
      · have hz92 : Hid (z = 92) := by show z = 92; simpa using e92
        have hFI : F ≤ I := hT.out.le (by rw [HZ.out]; exact hlt) (by rw [← HZ1.out]; exact hz92.out)
        obtain ⟨q, hq⟩ : ∃ q, q = htmlE (zs.drop I) := ⟨_, rfl⟩
        have HQ : Hid _ := hq
        clear hq
        have hcI : cap ≠ I := by omega
        have hcs : Hid (∀ i, i < n - I → wr.cell? ⟨b, off + I + i, none⟩ = some (.int .u8 ((zs.drop I).getD i 0))) := by
          obtain ⟨_, h0 | ⟨b', off', ha, hb, hne, hc⟩⟩ := HXR.out
          · omega
          · cases ha
            intro i hi
            rw [Nat.add_assoc, hc (I + i) (by omega)]
            simp [List.getD_eq_getElem?_getD]
        have hzd : Hid ((zs.drop I).length = n - I) := by show _ = _; rw [List.length_drop, HZ.out]
        cases e0 : (q != 0)
        · have hO1 : Hid (O ++ tl zs F (I + 2) = out ++ tl zs 0 0) := by
            show _ = _
            rw [← hO.out, tl_esc (i := I) (by rw [← HZ1.out]; exact hz92.out) (by rw [HZ.out]; exact hlt) (by rw [← HQ.out]; simpa using e0)]
          go_wp2_with (go_at_call 46; refine (htmlEscaped_any b (off + I) (n - I) (cap - I) (zs.drop I) _ hzd.out (fun z hz => HU.out z (List.mem_of_mem_drop hz)) (by omega) (by omega) hcs.out).mono ?_; rintro x w5 ⟨rfl, rfl⟩; rw [← HQ.out])
          go_roundw
          case rel => exact ⟨F, I + 2, O, rfl, by go_num, hF, hT.out.next 2, hO1, hr, hK⟩
          case measure => simp [intOf]; omega
        · have hq0 : Hid (q ≠ 0) := by show q ≠ 0; simpa using e0
          have hTn : Hid (TOk zs (I + 6) (I + 2)) := TOk.html (by rw [HZ.out]; omega) (by rw [← HQ.out]; exact hq0.out)
          have hI6 : I + 6 ≤ n := by have := hTn.out.1; rw [HZ.out] at this; exact this
          have hby : Hid (Bytes wr l.N (some ⟨b, off + F, none⟩) (I - F) ((zs.drop F).take (I - F))) := BytesX.sub HXR.out F (I - F) (by omega)
          obtain ⟨O2, hO2⟩ : ∃ O2, O2 = O ++ (zs.drop F).take (I - F) := ⟨_, rfl⟩
          have HO2 : Hid _ := hO2
          clear hO2
          have hO1 : Hid ((O2 ++ [q]) ++ tl zs (I + 6) (I + 2) = out ++ tl zs 0 0) := by
            show _ = _
            rw [← hO.out, HO2.out, tl_html (i := I) (by rw [← HZ1.out]; exact hz92.out) (by rw [HZ.out]; exact hlt) (by rw [← HQ.out]; exact hq0.out), ← HQ.out]
            simp only [List.append_assoc]
          have hln : Hid (O.length + (I - F) = O2.length) := by
            show _ = _
            rw [HO2.out, List.length_append, List.length_take, List.length_drop, HZ.out]
            omega
          have hos1 : O2.length + 1 ≤ 140737488355328 := by
            have h1 := HS.out
            rw [← hO1.out, List.length_append, List.length_append] at h1
            simp only [List.length_cons, List.length_nil] at h1
            omega
          have hos : Hid (O.length + (I - F) ≤ 140737488355328) := by have := hln.out; show _ ≤ _; omega
          have hcF : cap ≠ F := by omega
          have hFi : (F : Int) ≤ (I : Int) := by omega
          have hFi2 : (I : Int) ≤ (cap : Int) := by omega
          go_wp2_with (go_at_call 46; refine (htmlEscaped_any b (off + I) (n - I) (cap - I) (zs.drop I) _ hzd.out (fun z hz => HU.out z (List.mem_of_mem_drop hz)) (by omega) (by omega) hcs.out).mono ?_; rintro x w5 ⟨rfl, rfl⟩; rw [← HQ.out])
          go_region_law (refine step_app_bytes rfl _ _ rfl 0 _ O rfl ho _ (I - F) (cap - F) _ rfl _ hby.out (by simp) hos.out (Nat.zero_le _) ?_; intro a2 c2' w2 ho2 hg2 hl2; obtain ⟨hLI, hKp, hc4', hf4'⟩ := LI.wrote (w := w5.drew) hr c0 hg2 ho2 hl2 (by rw [← HO2.out]; exact hln.out))
          all_goals
            rw [← HO2.out] at hLI
            generalize w2.setCell ⟨l.B, 0, none⟩ (.slice a2 (O.length + (I - F)) c2') = W at hLI hKp ⊢
            obtain ⟨ao3, co3, c03, f03, c33, f33, ho3⟩ := hLI.own1 q
            go_wp2_with (at_builtin; refine wpList_app_bytes rfl _ _ rfl 0 _ O2 rfl ho3 _ 1 1 [q] rfl _ (one_row _ q) (by simp) hos1 (Nat.zero_le _) ?_; intro a4 c4' w4 ho4 hg4 hl4; obtain ⟨hLI5, hKp5, hc5, hf5, hc35, hf35⟩ := hLI.wrote1 q c03 hg4 ho4 hl4 rfl)
            go_roundw
            case rel => exact ⟨I + 6, I + 2, _, by go_num, by go_num, hI6, hTn, hO1, hLI5, (hK.drew.trans hKp).trans hKp5⟩
            case measure => simp [intOf]; omega
      · have hO1 : Hid (O ++ tl zs F (I + 1) = out ++ tl zs 0 0) := by
          show _ = _
          rw [← hO.out, tl_plain (i := I) (by rw [← HZ1.out]; simpa using e92) (by rw [HZ.out]; exact hlt)]
        go_wp2
        go_roundw
        case rel => exact ⟨F, I + 1, O, rfl, by go_num, hF, hT.out.next 1, hO1, hr, hK⟩
        case measure => simp [intOf]; omega
    · have hby : Hid (Bytes wr l.N (some ⟨b, off + F, none⟩) (n - F) (zs.drop F)) := by
        have := hxr.sub F (n - F) (by omega)
        rwa [List.take_of_length_le (by simp; have := HZ.out; omega)] at this
      have hO1 : Hid (O ++ zs.drop F = out ++ tl zs 0 0) := by
        show _ = _
        rw [← hO.out, tl_end (by rw [HZ.out]; omega)]
      have hos : Hid (O.length + (n - F) ≤ 140737488355328) := by
        have h1 := HS.out
        rw [← hO1.out, List.length_append, List.length_drop, HZ.out] at h1
        exact h1
      have hln : Hid (O.length + (n - F) = (O ++ zs.drop F).length) := by
        show _ = _
        rw [List.length_append, List.length_drop, HZ.out]
      clear hxr
      have hFi : (F : Int) ≤ (n : Int) := by omega
      by_cases hcF : cap = F
      · obtain rfl : n = F := by omega
        subst hcF
        have hos0 : O.length + 0 ≤ 140737488355328 := by have := hos.out; omega
        have hd : Hid (zs.drop cap = []) := by show _ = _; exact List.drop_eq_nil_iff.2 (by rw [HZ.out]; omega)
        go_wp2
        go_region_law (refine step_app_bytes rfl _ _ rfl 0 _ O rfl ho _ 0 0 [] rfl 0 (Bytes.empty _ _ _) (by simp) hos0 (Nat.zero_le _) ?_; intro a2 c2' w2 ho2 hg2 hl2; obtain ⟨hLI, hKp, hc4', hf4'⟩ := LI.wrote (w := wr.drew) hr c0 hg2 ho2 hl2 (by simp))
        all_goals
          go_wp2
          go_end0
          exact ⟨rfl, by rw [← hO1.out, hd.out]; exact hLI, hK.drew.trans hKp⟩
      · go_wp2
        go_region_law (refine step_app_bytes rfl _ _ rfl 0 _ O rfl ho _ (n - F) (cap - F) _ rfl _ hby.out (by simp) hos.out (Nat.zero_le _) ?_; intro a2 c2' w2 ho2 hg2 hl2; obtain ⟨hLI, hKp, hc4', hf4'⟩ := LI.wrote (w := wr.drew) hr c0 hg2 ho2 hl2 hln.out)
        all_goals
          go_wp2
          go_end0
          exact ⟨rfl, by rw [← hO1.out]; exact hLI, hK.drew.trans hKp⟩

theorem text_any (pl : Bool) (l : Lay) (d : Nat) (out : List Int) (k : Nat) (b off n cap : Nat) (zs : List Int) (w : World) (h : LI w l d out k) (hx : BytesX w l.N l.row (some ⟨b, off, none⟩) n zs) (hu : ∀ z ∈ zs, 0 ≤ z ∧ z ≤ 255)
    (hpl : pl = true → ∀ i, i < zs.length → zs.getD i 0 ≠ 92) (hnc : n ≤ cap) (hcap : cap ≤ 1099511627776) (hsz : (out ++ tl zs 0 0).length ≤ 140737488355328) :
    Calls Try.prog 33 #[.pointer (some ⟨l.B, 0, none⟩), .slice (some ⟨b, off, none⟩) n cap, .bool pl] w fun x w' => x = .returned (.tuple #[]) ∧ LI w' l d (out ++ tl zs 0 0) k ∧ Keep l.N l.row w w' := by
  cases pl
  · exact text_loop l d out k b off n cap zs w h hx hu hnc hcap hsz
  · have e := tl_none (hpl rfl) 0 _ 0 rfl
    rw [List.drop_zero] at e
    rw [e] at hsz ⊢
    exact text_plain l d out k b off n cap zs w h hx (by rw [List.length_append, hx.1] at hsz; exact hsz)
end Go.Proofs.Qxb6603067a
