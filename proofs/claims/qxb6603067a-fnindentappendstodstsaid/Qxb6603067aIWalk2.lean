/-
  Indent (14) once more: its result lies in a row that it has made itself (the law FnIndentAppendsToDst asks it).
-/
import Derived.Test.Qxb6603067aIWalk
namespace Go.Proofs.Qxb6603067a
open Go.RowKit
open Plain

set_option maxRecDepth 10000 in
set_option maxHeartbeats 400000 in
theorem end_any2 (l : Lay) (d : Nat) (out : List Int) (k : Nat) (w : World) (h : LI w l d out k) (hsz : out.length + 1 ≤ 140737488355328) :
    Calls Try.prog 38 #[.pointer (some ⟨l.B, 0, none⟩)] w fun x w' => ∃ a c, x = .returned (.slice a (out.length + 1) c) ∧ Own w' 0 (.slice a (out.length + 1) c) (out ++ [10]) ∧ Keep l.N l.row w w' ∧ Hid (∀ g, (Value.slice a (out.length + 1) c).ownBlock = some g → some g = l.row ∨ l.N ≤ g) := by
  obtain ⟨ao, co, c0, f0, c3, f3, ho⟩ := h.own1 10
  have hN : l.N ≤ (w.alloc (.cells #[.int .u8 10] 5)).heap.size := by
    obtain ⟨_, _, _, _, _, _, _, _, _, _, _, _, _, _, hN, hB, _⟩ := h
    simp
    omega
  have hK0 : Keep l.N l.row w (w.alloc (.cells #[.int .u8 10] 5)) := (Keep.refl _ _ w).alloc (by
    obtain ⟨_, _, _, _, _, _, _, _, _, _, _, _, _, _, hN, hB, _⟩ := h
    omega) _
  have hgg : ∀ q, (Value.slice ao out.length co).ownBlock = some q → some q = l.row ∨ l.N ≤ q := by
    obtain ⟨ao', co', al, cl, c0', c1, c2, c3, c4, f0, f3, f4, ho, hl, hN, hB, hr, hgg⟩ := h
    rw [c0] at c0'
    simp only [Option.some.injEq, Value.slice.injEq] at c0'
    obtain ⟨rfl, _, rfl⟩ := c0'
    exact fun q e => (hgg q e).2.1
  have HGG : Hid _ := hgg
  clear hgg
  go_enter Try.func38, Try.ntmps38
  go_wp2_with (at_builtin; refine wpList_app_bytes rfl _ _ rfl 0 _ out rfl ho _ 1 1 [10] rfl _ (one_row w 10) (by simp) hsz (Nat.zero_le _) ?_; intro a2 c2 w2 ho2 hg2 hl2)
  go_ret
  refine ⟨_, _, rfl, ho2, hK0.grown hg2 hN HGG.out, fun g hg => ?_⟩
  rcases hl2 with h1 | h1
  · exact HGG.out g (h1.symm.trans hg)
  · rw [h1] at hg
    cases hg
    exact .inr hN

set_option maxRecDepth 10000 in
set_option maxHeartbeats 4000000 in
theorem indent_any2 (v : Value) (zs : List Int) (b off n cap : Nat) (cs : List Int) (pre ind : ByteArray) (w : World) (T : List Int)
    (hv : Full w v zs) (hx : BytesX w w.heap.size none (some ⟨b, off, none⟩) n cs) (hu : ∀ z ∈ cs, 0 ≤ z ∧ z ≤ 255) (h0 : 0 < n) (hn : n ≤ 1048576) (hnc : n ≤ cap) (hcap : cap ≤ 1099511627776)
    (hz : zs.length ≤ 1048576) (hp : pre.size ≤ 1048576) (hi : ind.size ≤ 1048576) (hrun : RunTo cs (sbytes pre) (sbytes ind) 0 0 (zs ++ sbytes pre) T) (hT : T.length + 1 ≤ 1099511627776) :
    Calls Try.prog 14 #[v, .slice (some ⟨b, off, none⟩) n cap, .string pre, .string ind] w fun x w' => ∃ a c, x = .returned (.slice a (T.length + 1) c) ∧ Own w' 0 (.slice a (T.length + 1) c) (T ++ [10]) ∧ Keep w.heap.size none w w' ∧ ∀ g, (Value.slice a (T.length + 1) c).ownBlock = some g → w.heap.size ≤ g := by
  have HZ : Hid _ := hx.1
  have HU : Hid _ := hu
  have HX : Hid _ := hx
  have HR : Hid _ := hrun
  clear hu hx hrun
  go_enter Try.func14, Try.ntmps14
  go_wp2_with (go_at_call 32; refine (newLayout_lay v zs n pre ind _ hv h0 hn hz hp hi).mono ?_; rintro x w1 ⟨l, k0, rfl, hL0, hK0, HL⟩)
  have HX1 : Hid (BytesX w1 l.N l.row (some ⟨b, off, none⟩) n cs) := by
    have h1 : BytesX w l.N l.row (some ⟨b, off, none⟩) n cs := by
      rw [HL.out.1, HL.out.2.1]
      exact HX.out
    exact BytesX.later h1 hK0
  have HR1 : Hid (RunTo cs (sbytes l.pre) (sbytes l.ind) 0 0 (zs ++ sbytes pre) T) := by
    show RunTo _ _ _ _ _ _ _
    rw [HL.out.2.2.1, HL.out.2.2.2]
    exact HR.out
  have hp' : l.pre.size ≤ 1048576 := by rw [HL.out.2.2.1]; exact hp
  have hi' : l.ind.size ≤ 1048576 := by rw [HL.out.2.2.2]; exact hi
  clear hv HX HR
  go_loopw [10] (fun i wr => ∃ (I d k : Nat) (O : List Int), i = .int .i64 I ∧ I ≤ n ∧ d ≤ I ∧ Hid (RunTo cs (sbytes l.pre) (sbytes l.ind) I d O T) ∧ LI wr l d O k ∧ Keep l.N l.row w1 wr) (fun i _ => n - (intOf i).toNat)
  case atStart => exact ⟨0, 0, k0, _, rfl, Nat.zero_le _, Nat.le_refl _, HR1, hL0, Keep.refl _ _ _⟩
  case round =>
    obtain ⟨I, d, k, O, rfl, hI, hd, hRT, hr, hK⟩ := hrel
    clear hL0
    have HXR : Hid (BytesX wr l.N l.row (some ⟨b, off, none⟩) n cs) := BytesX.later HX1.out hK
    by_cases hlt : I < n
    · have hcell : wr.cell? ⟨b, off + I, none⟩ = some (.int .u8 (cs.getD I 0)) := by
        obtain ⟨_, h0 | ⟨b', off', ha, hb, hne, hc⟩⟩ := HXR.out
        · omega
        · cases ha
          exact hc I hlt
      obtain ⟨z, hz⟩ : ∃ z, cs.getD I 0 = z := ⟨_, rfl⟩
      rw [hz] at hcell
      have HZ1 : Hid _ := hz
      clear hz
      obtain ⟨s, hs, hRT2⟩ := hRT.out.step (by rw [HZ.out]; exact hlt)
      have HSL : Hid _ := hRT2.len
      have HS : Hid _ := hs
      have HR2 : Hid _ := hRT2
      clear hs hRT2
      by_cases hz34 : z = 34
      · subst hz34
        obtain ⟨r, hstr, hss⟩ := istep_quote HZ1.out HS.out
        have hsp := str_pos hstr
        obtain ⟨E, hE⟩ : ∃ E, I + 1 + r.n = E := ⟨_, rfl⟩
        have hEA : Hid (EndsAt cs (I + 1) E) := ⟨0, fun j hj => absurd hj (by omega), r, hstr, hE⟩
        have hEn : E ≤ n := by rw [HZ.out] at hsp; omega
        have htx : Hid (tl ((cs.drop I).take (E - I)) 0 0 = 34 :: r.out) := text_str HZ1.out hstr hE (by rw [HZ.out]; exact hlt)
        rw [hE] at hss
        subst hss
        have htxl : Hid ((O ++ tl ((cs.drop I).take (E - I)) 0 0).length ≤ 140737488355328) := by
          have := HSL.out
          show _ ≤ _
          rw [htx.out]
          simp only at this
          omega
        clear hstr hsp hE
        go_wp2
        go_loop [10, 13] (fun i p => ∃ (J : Nat) (pl : Bool), i = .int .i64 J ∧ p = .bool pl ∧ I < J ∧ Hid (EndsAt cs J E) ∧ Hid (pl = true → ∀ j, I ≤ j → j < J → cs.getD j 0 ≠ 92)) (fun i _ => E - (intOf i).toNat)
        case atStart =>
          exact ⟨I + 1, true, by go_num, rfl, by (go_light; omega), hEA, fun _ j h1 h2 => by rw [show j = I by (go_light; omega), HZ1.out]; decide⟩
        case round =>
          obtain ⟨J, pl, rfl, rfl, hIJ, hEJ, hpl⟩ := hrel
          have hJE := hEJ.out.lt
          have hJn : J < n := by (go_light; omega)
          have hcellJ : wr.cell? ⟨b, off + J, none⟩ = some (.int .u8 (cs.getD J 0)) := by
            obtain ⟨_, h0 | ⟨b', off', ha, hb, hne, hc⟩⟩ := HXR.out
            · (go_light; omega)
            · cases ha
              exact hc J hJn
          have hst := hEJ.out.step
          obtain ⟨y, hy⟩ : ∃ y, cs.getD J 0 = y := ⟨_, rfl⟩
          rw [hy] at hcellJ hst
          have HY : Hid _ := hy
          clear hy
          rcases hst with ⟨h34, hE'⟩ | ⟨h1, h2, h3⟩ | ⟨h92, h3⟩
          · subst h34
            have hwm : IntKind.i64.wrap ((J : Int) + 1) = (E : Int) := by
              rw [IntWalk.i64_in _ (by (go_light; omega))]
              (go_light; omega)
            have HE' : Hid _ := hE'
            have hIE : I ≤ E := by (go_light; omega)
            have hFi : (I : Int) ≤ (E : Int) := by (go_light; omega)
            have hFi2 : (E : Int) ≤ (cap : Int) := by (go_light; omega)
            have hcI : cap ≠ I := by (go_light; omega)
            have hbx : Hid (BytesX wr l.N l.row (some ⟨b, off + I, none⟩) (E - I) ((cs.drop I).take (E - I))) := BytesX.subX HXR.out I (E - I) (by (go_light; omega))
            have hplx : Hid (pl = true → ∀ i, i < ((cs.drop I).take (E - I)).length → ((cs.drop I).take (E - I)).getD i 0 ≠ 92) := by
              intro hp i hi
              have hl := hbx.out.1
              rw [hl] at hi
              have e : ((cs.drop I).take (E - I)).getD i 0 = cs.getD (I + i) 0 := by simp [List.getD_eq_getElem?_getD, hi]
              rw [e]
              by_cases hij : I + i = J
              · rw [hij, HY.out]; decide
              · exact hpl.out hp (I + i) (by (go_light; omega)) (by (go_light; omega))
            clear hE' hJE
            go_wp2_with (go_at_call 33; refine (text_any pl l d O k b (off + I) (E - I) (cap - I) ((cs.drop I).take (E - I)) _ hr hbx.out (fun z hz => HU.out z (List.mem_of_mem_drop (List.mem_of_mem_take hz))) hplx.out (by (go_light; omega)) (by (go_light; omega)) htxl.out).mono ?_; rintro x w5 ⟨rfl, hL5, hK5⟩)
            go_roundw
            case rel => exact ⟨E, d, k, _, by go_num, hEn, by (go_light; omega), RunTo.to HR2.out rfl rfl (by rw [htx.out]), hL5, hK.trans hK5⟩
            case measure => (have := HE'.out; simp [intOf]; omega)
          · have e1 : (y != 34) = true := by simpa using h1
            have e2 : (y == 92) = false := by simpa using h2
            go_wp2
            go_round
            case rel =>
              refine ⟨J + 1, pl, by go_num, rfl, by (go_light; omega), h3, fun hp j g1 g2 => ?_⟩
              by_cases hjj : j = J
              · rw [hjj, HY.out]; exact h2
              · exact hpl.out hp j g1 (by (go_light; omega))
            case measure => simp [intOf]; omega
          · subst h92
            go_wp2
            go_round
            case rel => exact ⟨J + 2, false, by go_num, rfl, by (go_light; omega), h3, fun hp => absurd hp (by decide)⟩
            case measure => simp [intOf]; omega
      by_cases hz123 : z = 123 ∨ z = 91
      · obtain ⟨hl1, hcase⟩ := istep_open z HZ1.out hz123 HS.out
        rw [HZ.out] at hl1
        have hcell1 : wr.cell? ⟨b, off + (I + 1), none⟩ = some (.int .u8 (cs.getD (I + 1) 0)) := by
          obtain ⟨_, h0 | ⟨b', off', ha, hb, hne, hc⟩⟩ := HXR.out
          · omega
          · cases ha
            exact hc (I + 1) hl1
        obtain ⟨y, hy⟩ : ∃ y, cs.getD (I + 1) 0 = y := ⟨_, rfl⟩
        rw [hy] at hcell1 hcase
        clear hy hz34
        rcases hcase with ⟨hy, hss⟩ | ⟨hy, hss⟩
        · subst hss
          obtain ⟨ao, co, c0, f0, ho⟩ := hr.ownO (.cells #[.int .u8 z, .int .u8 y] 5)
          have hsz : O.length + 2 ≤ 140737488355328 := by
            have := HSL.out
            simp only [List.length_append, List.length_cons, List.length_nil] at this
            omega
          rcases hz123 with rfl | rfl <;> rcases hy with rfl | rfl
          all_goals
            go_wp2_with (at_builtin; refine wpList_app_bytes rfl _ _ rfl 0 _ O rfl ho _ 2 2 [_, _] rfl _ (two_row _ _ _) (by simp) hsz (Nat.zero_le _) ?_; intro a2 c2 w2 ho2 hg2 hl2; obtain ⟨hLI, hKp, hc2, hf2⟩ := hr.wroteO _ _ c0 hg2 ho2 hl2 rfl)
            go_roundw
            case rel => exact ⟨I + 2, d, k, _, by go_num, hl1, by (go_light; omega), RunTo.to HR2.out rfl rfl rfl, hLI, hK.trans hKp⟩
            case measure => simp [intOf]; omega
        · subst hss
          have hy1 : (y == 125) = false := by simpa using hy.1
          have hy2 : (y == 93) = false := by simpa using hy.2
          have hnl : Hid (O.length + 1 + (nl (sbytes l.pre) (sbytes l.ind) (d + 1)).length ≤ T.length) := by
            have := HSL.out
            simp only [List.length_append, List.length_cons] at this
            show _ ≤ _
            omega
          have hnl2 : Hid ((nl (sbytes l.pre) (sbytes l.ind) (d + 1)).length = 1 + l.pre.size + (d + 1) * l.ind.size) := by
            show _ = _
            rw [nl_length, sbytes_length, sbytes_length]
          rcases hz123 with rfl | rfl
          all_goals
            go_wp2_with (go_at_call 34; refine (open_any l d O k _ _ hr hp' hi' (by have := hnl.out; have := hnl2.out; (go_light; omega)) (by (go_light; omega)) (by have := hnl.out; (go_light; omega))).mono ?_; rintro x w5 ⟨rfl, ⟨k5, hL5⟩, hK5⟩)
            go_roundw
            case rel => exact ⟨I + 1, d + 1, k5, _, by go_num, hlt, by (go_light; omega), RunTo.to HR2.out rfl rfl (by simp), hL5, hK.trans hK5⟩
            case measure => simp [intOf]; omega
      by_cases hz125 : z = 125 ∨ z = 93
      · obtain ⟨hd1, hss⟩ := istep_close z HZ1.out hz125 HS.out
        obtain ⟨e, he⟩ : ∃ e, d = e + 1 := ⟨d - 1, by omega⟩
        have hee : d - 1 = e := by omega
        rw [hee] at hss
        have HE : Hid _ := he
        clear hee he hz34 hz123 hd1
        subst hss
        have hnl : Hid (O.length + 1 + (nl (sbytes l.pre) (sbytes l.ind) e).length ≤ T.length) := by
          have := HSL.out
          simp only [List.length_append, List.length_cons, List.length_nil] at this
          show _ ≤ _
          omega
        have hnl2 : Hid ((nl (sbytes l.pre) (sbytes l.ind) e).length = 1 + l.pre.size + e * l.ind.size) := by
          show _ = _
          rw [nl_length, sbytes_length, sbytes_length]
        rcases hz125 with rfl | rfl
        all_goals
          go_wp2_with (go_at_call 35; refine (close_any l e d HE.out O k _ _ hr hp' hi' (by have := hnl.out; have := hnl2.out; (go_light; omega)) (by (go_light; omega)) (by have := hnl.out; (go_light; omega))).mono ?_; rintro x w5 ⟨rfl, ⟨k5, hL5⟩, hK5⟩)
          go_roundw
          case rel => exact ⟨I + 1, e, k5, _, by go_num, hlt, by (have := HE.out; go_light; omega), RunTo.to HR2.out rfl rfl (by simp), hL5, hK.trans hK5⟩
          case measure => simp [intOf]; omega
      by_cases hz44 : z = 44
      · subst hz44
        have hss := istep_comma HZ1.out HS.out
        subst hss
        have hnl : Hid (O.length + 1 + (nl (sbytes l.pre) (sbytes l.ind) d).length ≤ T.length) := by
          have := HSL.out
          simp only [List.length_append, List.length_cons] at this
          show _ ≤ _
          omega
        have hnl2 : Hid ((nl (sbytes l.pre) (sbytes l.ind) d).length = 1 + l.pre.size + d * l.ind.size) := by
          show _ = _
          rw [nl_length, sbytes_length, sbytes_length]
        go_wp2_with (go_at_call 36; refine (comma_any l d O k _ hr hp' hi' (by have := hnl.out; have := hnl2.out; (go_light; omega)) (by (go_light; omega)) (by have := hnl.out; (go_light; omega))).mono ?_; rintro x w5 ⟨rfl, ⟨k5, hL5⟩, hK5⟩)
        go_roundw
        case rel =>
          exact ⟨I + 1, d, k5, _, by go_num, hlt, by (go_light; omega), RunTo.to HR2.out rfl rfl (by simp), hL5, hK.trans hK5⟩
        case measure => simp [intOf]; omega
      by_cases hz58 : z = 58
      · subst hz58
        have hss := istep_colon HZ1.out HS.out
        subst hss
        obtain ⟨ao, co, c0, f0, ho⟩ := hr.ownO (.cells #[.int .u8 58, .int .u8 32] 5)
        have hsz : O.length + 2 ≤ 140737488355328 := by
          have := HSL.out
          simp only [List.length_append, List.length_cons, List.length_nil] at this
          omega
        go_wp2_with (at_builtin; refine wpList_app_bytes rfl _ _ rfl 0 _ O rfl ho _ 2 2 [_, _] rfl _ (two_row _ _ _) (by simp) hsz (Nat.zero_le _) ?_; intro a2 c2 w2 ho2 hg2 hl2; obtain ⟨hLI, hKp, hc2, hf2⟩ := hr.wroteO _ _ c0 hg2 ho2 hl2 rfl)
        go_roundw
        case rel => exact ⟨I + 1, d, k, _, by go_num, hlt, by (go_light; omega), RunTo.to HR2.out rfl rfl rfl, hLI, hK.trans hKp⟩
        case measure => simp [intOf]; omega
      · have hss := istep_tok z HZ1.out hz34 (fun e => hz123 (.inl e)) (fun e => hz123 (.inr e)) (fun e => hz125 (.inl e)) (fun e => hz125 (.inr e)) hz44 hz58 HS.out
        subst hss
        have e1 : (z == 34) = false := by simpa using hz34
        have e2 : (z == 123) = false := by rw [beq_eq_false_iff_ne]; exact fun e => hz123 (.inl e)
        have e3 : (z == 91) = false := by rw [beq_eq_false_iff_ne]; exact fun e => hz123 (.inr e)
        have e4 : (z == 125) = false := by rw [beq_eq_false_iff_ne]; exact fun e => hz125 (.inl e)
        have e5 : (z == 93) = false := by rw [beq_eq_false_iff_ne]; exact fun e => hz125 (.inr e)
        have e6 : (z == 44) = false := by simpa using hz44
        have e7 : (z == 58) = false := by simpa using hz58
        clear hz34 hz123 hz125 hz44 hz58
        obtain ⟨ao, co, al, cl, c0, c1, c2, c3, c4, f0, f3, f4, ho, hl, hN, hB, hrow, hgg⟩ := id hr
        clear hl hgg c1 c2 c3 c4 f3 f4 hN hB hrow
        go_wp2
        clear e1 e2 e3 e4 e5 e6 e7
        go_loop [10] (fun i => ∃ J : Nat, i = .int .i64 J ∧ I ≤ J ∧ J < n ∧ Hid (∀ k, I < k → k ≤ J → Plain.delim (cs.getD k 0) = false)) (fun i => n - (intOf i).toNat)
        case atStart => exact ⟨I, rfl, Nat.le_refl _, hlt, fun k h1 h2 => absurd h1 (by omega)⟩
        case round =>
          obtain ⟨J, rfl, hJ1, hJ2, hno⟩ := hrel
          by_cases hgo : J + 1 < n ∧ Plain.delim (cs.getD (J + 1) 0) = false
          · obtain ⟨hj, hdl⟩ := hgo
            have hcellJ : wr.cell? ⟨b, off + (J + 1), none⟩ = some (.int .u8 (cs.getD (J + 1) 0)) := by
              obtain ⟨_, h0 | ⟨b', off', ha, hb, hne, hc⟩⟩ := HXR.out
              · omega
              · cases ha
                exact hc (J + 1) hj
            obtain ⟨y, hy⟩ : ∃ y, cs.getD (J + 1) 0 = y := ⟨_, rfl⟩
            rw [hy] at hcellJ hdl
            have HY : Hid _ := hy
            have HDL : Hid _ := hdl
            clear hy hdl
            go_wp2_with (go_at_call 37; refine (isDelim_any y _).mono ?_; rw [delim_eq, HDL.out]; rintro x w5 ⟨rfl, rfl⟩)
            go_round
            case rel =>
              refine ⟨J + 1, by go_num, by (go_light; omega), hj, fun k h1 h2 => ?_⟩
              by_cases hk : k = J + 1
              · rw [hk, HY.out, HDL.out]
              · exact hno.out k h1 (by (go_light; omega))
            case measure => simp [intOf]; omega
          · have hfol : Hid (Follow cs (J + 1)) := by
              show _ ∨ _
              by_cases hj : J + 1 < n
              · right
                cases hq : Plain.delim (cs.getD (J + 1) 0)
                · exact absurd ⟨hj, hq⟩ hgo
                · rfl
              · left
                rw [HZ.out]
                omega
            have htok : Hid (tokEnd cs I = J + 1) := tokEnd_of (by omega) (by rw [HZ.out]; omega) (fun k h1 h2 => hno.out k h1 (by omega)) hfol.out
            obtain ⟨m, hm⟩ : ∃ m, J + 1 = m := ⟨_, rfl⟩
            have hwm : IntKind.i64.wrap ((J : Int) + 1) = (m : Int) := by
              rw [IntWalk.i64_in _ (by omega)]
              omega
            have HM : Hid _ := hm
            have hmn : m ≤ n := by omega
            have hIm : I ≤ m := by omega
            clear hm
            have hby : Hid (Bytes wr l.N (some ⟨b, off + I, none⟩) (m - I) ((cs.drop I).take (m - I))) := BytesX.sub HXR.out I (m - I) (by omega)
            obtain ⟨O2, hO2⟩ : ∃ O2, O2 = O ++ (cs.drop I).take (m - I) := ⟨_, rfl⟩
            have HO2 : Hid _ := hO2
            clear hO2
            have hln : Hid (O.length + (m - I) = O2.length) := by
              show _ = _
              rw [HO2.out, List.length_append, List.length_take, List.length_drop, HZ.out]
              omega
            have hos : Hid (O.length + (m - I) ≤ 140737488355328) := by
              have h1 := HSL.out
              simp only [htok.out, HM.out] at h1
              rw [← HO2.out] at h1
              have := hln.out
              show _ ≤ _
              omega
            have hcI : cap ≠ I := by omega
            have hFi : (I : Int) ≤ (m : Int) := by omega
            have hFi2 : (m : Int) ≤ (cap : Int) := by omega
            by_cases hj : m < n
            · have hdl : Plain.delim (cs.getD m 0) = true := by
                cases hq : Plain.delim (cs.getD m 0)
                · exact absurd ⟨by rw [HM.out]; exact hj, by rw [HM.out]; exact hq⟩ hgo
                · rfl
              have hcellJ : wr.cell? ⟨b, off + m, none⟩ = some (.int .u8 (cs.getD m 0)) := by
                obtain ⟨_, h0 | ⟨b', off', ha, hb, hne, hc⟩⟩ := HXR.out
                · omega
                · cases ha
                  exact hc m hj
              obtain ⟨y, hy⟩ : ∃ y, cs.getD m 0 = y := ⟨_, rfl⟩
              rw [hy] at hcellJ hdl
              have HDL : Hid _ := hdl
              clear hy hdl hgo
              go_wp2_with (go_at_call 37; refine (isDelim_any y _).mono ?_; rw [delim_eq, HDL.out]; rintro x w5 ⟨rfl, hw5⟩; subst w5)
              go_region_law (refine step_app_bytes rfl _ _ rfl 0 _ O rfl ho _ (m - I) (cap - I) _ rfl _ hby.out (by simp) hos.out (Nat.zero_le _) ?_; intro a2 c2' w2 ho2 hg2 hl2; obtain ⟨hLI, hKp, hc4', hf4'⟩ := LI.wrote (w := wr.drew) hr c0 hg2 ho2 hl2 (by rw [← HO2.out]; exact hln.out))
              all_goals
                go_wp2
                go_roundw
                case rel => exact ⟨m, d, k, _, by go_num, hmn, by (go_light; omega), RunTo.to HR2.out (by simp only [htok.out, HM.out]) rfl (by simp only [htok.out, HM.out]), hLI, hK.drew.trans hKp⟩
                case measure => (have := HM.out; simp [intOf]; omega)
            · clear hgo
              go_wp2_with fail
              go_region_law (refine step_app_bytes rfl _ _ rfl 0 _ O rfl ho _ (m - I) (cap - I) _ rfl _ hby.out (by simp) hos.out (Nat.zero_le _) ?_; intro a2 c2' w2 ho2 hg2 hl2; obtain ⟨hLI, hKp, hc4', hf4'⟩ := LI.wrote (w := wr.drew) hr c0 hg2 ho2 hl2 (by rw [← HO2.out]; exact hln.out))
              all_goals
                go_wp2
                go_roundw
                case rel => exact ⟨m, d, k, _, by go_num, hmn, by (go_light; omega), RunTo.to HR2.out (by simp only [htok.out, HM.out]) rfl (by simp only [htok.out, HM.out]), hLI, hK.drew.trans hKp⟩
                case measure => (have := HM.out; simp [intOf]; omega)
    · have hO : O = T := hRT.out.fin (by rw [HZ.out]; omega)
      subst hO
      clear hRT
      go_wp2_with (go_at_call 38; refine (end_any2 l d O k _ hr (by omega)).mono ?_; rintro x w5 ⟨a5, c5, rfl, ho5, hK5, HG5⟩)
      go_ret
      refine ⟨a5, c5, rfl, ho5, ?_, fun g hg => ?_⟩
      · have := (hK0.trans hK).trans hK5
        rw [HL.out.1, HL.out.2.1] at this
        exact this
      · rcases HG5.out g hg with h1 | h1
        · rw [HL.out.2.1] at h1
          cases h1
        · rw [HL.out.1] at h1
          exact h1
end Go.Proofs.Qxb6603067a
