/-
  THE WALK of the layout model's container (41).
-/
import Derived.Test.Qxb6603067aCPlain
namespace Go.Proofs.Qxb6603067a
open Go.RowKit
open Plain

theorem newline_int (z : Int) (m : Mod) (out : List Int) (ln dp d : Nat) (w : World) (hz : z = d) (h : MI w m out ln dp) (hp : m.pre.size ≤ 1048576) (hi : m.ind.size ≤ 1048576) (hln : ln ≤ 1000000000) (hd : d ≤ 1000000000)
    (hsz : (out ++ em m.emit (nl (sbytes m.pre) (sbytes m.ind) d)).length ≤ 140737488355328) :
    Calls Try.prog 49 #[.pointer (some ⟨m.M, 0, none⟩), .int .i64 z] w fun x w' => x = .returned (.tuple #[]) ∧ MI w' m (out ++ em m.emit (nl (sbytes m.pre) (sbytes m.ind) d)) (ln + 1) (max dp d) ∧ Below m.M w w' := by
  subst hz
  exact newline_any m out ln dp d w h hp hi hln hd hsz
theorem value_int (zp zd : Int) {m : Mod} {f : Nat} (hv : ValOk m f) (out : List Int) (ln dp p d : Nat) (P : Option MR) (w : World) (hzp : zp = p) (hzd : zd = d) (h : MI w m out ln dp) (hd : d ≤ p) (hln : ln ≤ p) (hp : p ≤ m.len)
    (hmj : mj m.zs (sbytes m.pre) (sbytes m.ind) f none p d = some P) (hr : Room m out P) :
    Calls Try.prog 30 #[.pointer (some ⟨m.M, 0, none⟩), .int .i64 zp, .int .i64 zd] w (MrPost m out ln dp w P) := by
  subst hzp hzd
  exact hv out ln dp p d P w h hd hln hp hmj hr
theorem StrPost.yes {m : Mod} {out : List Int} {ln dp : Nat} {w : World} {p0 : Nat} {x : Ending} {w' : World} {r : Piece} (h : StrPost m out ln dp w p0 x w') (hr : str m.zs p0 = some r) : x = .returned (.tuple #[.int .i64 (p0 + r.n : Nat), .bool true]) ∧ MI w' m (out ++ em m.emit (34 :: r.out)) ln dp ∧ Below m.M w w' := by
  rcases h with ⟨r', hr', h⟩ | ⟨hn, _⟩
  · rw [hr] at hr'
    cases hr'
    exact h
  · rw [hr] at hn
    cases hn
theorem StrPost.no {m : Mod} {out : List Int} {ln dp : Nat} {w : World} {p0 : Nat} {x : Ending} {w' : World} (h : StrPost m out ln dp w p0 x w') (hr : str m.zs p0 = none) : ∃ (q : Nat) (O : List Int), x = .returned (.tuple #[.int .i64 q, .bool false]) ∧ MI w' m O ln dp ∧ Below m.M w w' := by
  rcases h with ⟨r', hr', h⟩ | ⟨hn, h⟩
  · rw [hr] at hr'
    cases hr'
  · exact h

set_option maxRecDepth 10000 in
set_option maxHeartbeats 8000000 in
theorem container_of (m : Mod) (n : Nat) (hlen : m.len ≤ 1048576) (hpp : m.pre.size ≤ 1048576) (hii : m.ind.size ≤ 1048576) (hV : ∀ f, f ≤ n → ValOk m f) : ConOk m (n + 1) := by
  intro out ln dp p d P b w h hd hln hp hb hb2 hmj hroom
  have hzl := h.bytes.1
  have HV : Hid _ := hV
  clear hV
  obtain ⟨bb, off, ha, hbW, c0, HB⟩ := h.open_ (by omega)
  have HA : Hid _ := ha
  clear HB ha
  have hcp := h.byte HA.out hp hb
  have HR : Hid _ := hroom
  clear hroom
  obtain ⟨n', hn', hcase⟩ := mj_con b hmj (by rw [hzl]; exact hp) hb hb2
  obtain rfl : n = n' := by omega
  clear hn' hmj
  obtain ⟨cl, hcl⟩ : ∃ cl, cl = closerOf b := ⟨_, rfl⟩
  rw [← hcl] at hcase ⊢
  have HCL : Hid _ := hcl
  clear hcl
  obtain ⟨ob, hob⟩ : ∃ ob, ob = (b == 123) := ⟨_, rfl⟩
  rw [← hob] at hcase ⊢
  clear hob
  rcases hcase with ⟨hat, hP⟩ | ⟨hat, Q, hQ, hP⟩
  · obtain ⟨h1, h2⟩ := (isAt_iff _ _ _).1 hat
    rw [hzl] at h1
    clear hat
    have hs1 : Hid ((out ++ em m.emit [b]).length + m.len + 20 ≤ 140737488355328) := Room.sub HR.out (fun r hr => by rw [hP] at hr; cases hr; simp)
    have hs2 : Hid ((out ++ em m.emit [b] ++ em m.emit [cl]).length ≤ 140737488355328) := by
      have := Room.sub HR.out (xs := [b, cl]) (fun r hr => by rw [hP] at hr; cases hr; simp)
      rw [List.append_assoc, ← em_append]
      show _ ≤ _
      have e : [b] ++ [cl] = [b, cl] := rfl
      rw [e]
      omega
    go_enter Try.func41, Try.ntmps41
    go_wp2_with (first
      | (go_at_call 31; refine (put_any m _ ln dp cl _ h5 hs2.out).mono ?_; rintro x6 w6 ⟨rfl, h6, hb6⟩)
      | (go_at_call 31; refine (put_any m out ln dp b _ h (by have := hs1.out; omega)).mono ?_; rintro x5 w5 ⟨rfl, h5, hb5⟩; have c05 := h5.cell0 HA.out; have hby5 := h5.byte HA.out h1 h2))
    go_ret2
    refine ⟨p + 2, true, _, ln, dp, by first | rfl | exact ret2 (by (go_light; omega)), h6, hb5.trans hb6, .inl ⟨rfl, _, hP, rfl, ?_, rfl, by simp⟩⟩
    rw [List.append_assoc, ← em_append]
    rfl
  · have hs1 : Hid ((out ++ em m.emit [b]).length + m.len + 20 ≤ 140737488355328) := Room.sub HR.out (fun r hr => by
      rw [hP] at hr
      cases Q with
      | none => cases hr
      | some x => cases hr; simp)
    have hTie0 : Hid (Tie m out ln dp P (out ++ em m.emit [b]) ln dp Q) := by
      have := Tie.add (m := m) (O := out) (l' := ln) (d' := dp) [b] 0 0 hP
      rw [Nat.max_zero, Nat.add_zero] at this
      exact this
    have hRoom0 : Hid (Room m (out ++ em m.emit [b]) Q) := Room.add [b] 0 0 hP HR.out
    have HQ : Hid _ := hQ
    clear hP hQ HR
    obtain ⟨O5, hO5⟩ : ∃ O5, O5 = out ++ em m.emit [b] := ⟨_, rfl⟩
    have HO5 : Hid _ := hO5
    rw [← hO5] at hTie0 hRoom0 hs1
    clear hO5
    go_enter Try.func41, Try.ntmps41
    go_upto_region 3 with (go_at_call 31; refine (put_any m out ln dp b _ h (by have := hs1.out; rw [← HO5.out]; omega)).mono ?_; rw [← HO5.out]; rintro x5 w5 ⟨rfl, h5, hb5⟩)
    go_cut [41] (fun t wx => t = .bool false ∧ wx = w5)
    case first =>
      have c05 := h5.cell0 HA.out
      by_cases hjl : p + 1 < m.len
      · obtain ⟨y, hy⟩ : ∃ y, m.zs.getD (p + 1) 0 = y := ⟨_, rfl⟩
        have hby := h5.byte HA.out hjl hy
        have hbx : (y == cl) = false := by
          rw [← hat]; unfold isAt; rw [hy, decide_eq_true (by (go_light; omega) : p + 1 < m.zs.length)]; rfl
        clear hy hat
        go_wp2
        go_meet
        exact ⟨rfl, rfl⟩
      · clear hat
        go_wp2
        go_meet
        exact ⟨rfl, rfl⟩
    case rest =>
      obtain ⟨rfl, rfl⟩ := hcut
      clear h c0 hcp hat hb
      go_wp2
      go_loopw [1] (fun i wr => ∃ (q l' d' g : Nat) (O : List Int) (P' : Option MR), i = .int .i64 q ∧ q ≤ m.len ∧ d < q ∧ l' < q ∧ g ≤ n ∧ Hid (mj m.zs (sbytes m.pre) (sbytes m.ind) g (some (cl, ob)) q d = some P') ∧ Hid (Tie m out ln dp P O l' d' P') ∧ Hid (Room m O P') ∧ MI wr m O l' d' ∧ Below m.M w wr) (fun i _ => m.len + 1 - (intOf i).toNat)
      case atStart => exact ⟨p + 1, ln, dp, n, O5, Q, by go_num, by (go_light; omega), by (go_light; omega), by (go_light; omega), Nat.le_refl _, HQ, hTie0, hRoom0, h5, hb5⟩
      case round =>
        obtain ⟨q, l', d', g, O, P', rfl, hq, hdq, hlq, hg, hM, hT, hR, hr, hB⟩ := hrel
        clear h5 hb5
        obtain ⟨g', rfl, hcase⟩ := mj_round hM.out
        rcases hcase with ⟨hk0, hPn⟩ | ⟨k, hk, V, hVm, hcase⟩
        · obtain ⟨hobt, hk⟩ := keyOf_none hk0
          clear hk0
          subst hobt hPn
          have hfin : Hid (∀ q2 O2 l2 d2, MrRel m out ln dp P q2 false O2 l2 d2) := fun q2 O2 l2 d2 => hT.out _ _ _ _ _ (.inr ⟨rfl, rfl⟩)
          have hsn : Hid ((O ++ em m.emit (nl (sbytes m.pre) (sbytes m.ind) (d + 1))).length + m.len + 20 ≤ 140737488355328) := Room.sub hR.out (fun r hr => by cases hr)
          rcases hk with h34 | ⟨h34, hs⟩ | ⟨h34, r, hs, h58⟩
          · by_cases hql : q < m.len
            · obtain ⟨y, hy⟩ : ∃ y, m.zs.getD q 0 = y := ⟨_, rfl⟩
              have HY : Hid _ := hy
              have hne : (y != 34) = true := by
                unfold isAt at h34
                rw [hy, decide_eq_true (by (go_light; omega) : q < m.zs.length), Bool.true_and] at h34
                simpa using h34
              clear hy h34
              go_wp2_with (go_at_call 49; refine (newline_int _ m O l' d' (d + 1) _ (by (go_light; omega)) hr hpp hii (by (go_light; omega)) (by (go_light; omega)) (by have := hsn.out; (go_light; omega))).mono ?_; rintro x6 w6 ⟨rfl, h6, hb6⟩; have c06 := h6.cell0 HA.out; have hby6 := h6.byte HA.out hql HY.out)
              go_ret2
              exact ⟨q, false, _, _, _, rfl, h6, hB.trans hb6, hfin.out _ _ _ _⟩
            · clear h34
              go_wp2_with (go_at_call 49; refine (newline_int _ m O l' d' (d + 1) _ (by (go_light; omega)) hr hpp hii (by (go_light; omega)) (by (go_light; omega)) (by have := hsn.out; (go_light; omega))).mono ?_; rintro x6 w6 ⟨rfl, h6, hb6⟩; have c06 := h6.cell0 HA.out)
              go_ret2
              exact ⟨q, false, _, _, _, rfl, h6, hB.trans hb6, hfin.out _ _ _ _⟩
          · obtain ⟨hql, hy⟩ := (isAt_iff _ _ _).1 h34
            rw [hzl] at hql
            have HY : Hid _ := hy
            have HSS : Hid _ := hs
            clear hy h34 hs
            go_wp2_with (first
              | (go_at_call 42; refine (str_any m _ _ _ q _ h6 hlen (by (go_light; omega)) hsn.out).mono ?_; intro x7 w7 hx7; obtain ⟨q7, O7, rfl, h7, hb7⟩ := StrPost.no hx7 HSS.out)
              | (go_at_call 49; refine (newline_int _ m O l' d' (d + 1) _ (by (go_light; omega)) hr hpp hii (by (go_light; omega)) (by (go_light; omega)) (by have := hsn.out; (go_light; omega))).mono ?_; rintro x6 w6 ⟨rfl, h6, hb6⟩; have c06 := h6.cell0 HA.out; have hby6 := h6.byte HA.out hql HY.out))
            go_ret2
            exact ⟨q7, false, _, _, _, rfl, h7, (hB.trans hb6).trans hb7, hfin.out _ _ _ _⟩
          · obtain ⟨hql, hy⟩ := (isAt_iff _ _ _).1 h34
            rw [hzl] at hql
            have HY : Hid _ := hy
            have HSS : Hid _ := hs
            have hsp := (str_pos hs).2.1
            obtain ⟨e, he⟩ : ∃ e, q + 1 + r.n = e := ⟨_, rfl⟩
            rw [he] at h58 hsp
            rw [hzl] at hsp
            have HE : Hid _ := he
            clear hy h34 hs he
            by_cases hel : e < m.len
            · obtain ⟨y, hy⟩ : ∃ y, m.zs.getD e 0 = y := ⟨_, rfl⟩
              have HY2 : Hid _ := hy
              have hne : (y != 58) = true := by
                unfold isAt at h58
                rw [hy, decide_eq_true (by (go_light; omega) : e < m.zs.length), Bool.true_and] at h58
                simpa using h58
              clear hy h58
              go_wp2_with (first
                | (go_at_call 42; refine (str_any m _ _ _ q _ h6 hlen (by (go_light; omega)) hsn.out).mono ?_; intro x7 w7 hx7; obtain ⟨hx7e, h7, hb7⟩ := StrPost.yes hx7 HSS.out; rw [HE.out] at hx7e; subst hx7e; have c07 := h7.cell0 HA.out; have hby7 := h7.byte HA.out hel HY2.out)
                | (go_at_call 49; refine (newline_int _ m O l' d' (d + 1) _ (by (go_light; omega)) hr hpp hii (by (go_light; omega)) (by (go_light; omega)) (by have := hsn.out; (go_light; omega))).mono ?_; rintro x6 w6 ⟨rfl, h6, hb6⟩; have c06 := h6.cell0 HA.out; have hby6 := h6.byte HA.out hql HY.out))
              go_ret2
              exact ⟨e, false, _, _, _, rfl, h7, (hB.trans hb6).trans hb7, hfin.out _ _ _ _⟩
            · clear h58
              go_wp2_with (first
                | (go_at_call 42; refine (str_any m _ _ _ q _ h6 hlen (by (go_light; omega)) hsn.out).mono ?_; intro x7 w7 hx7; obtain ⟨hx7e, h7, hb7⟩ := StrPost.yes hx7 HSS.out; rw [HE.out] at hx7e; subst hx7e; have c07 := h7.cell0 HA.out)
                | (go_at_call 49; refine (newline_int _ m O l' d' (d + 1) _ (by (go_light; omega)) hr hpp hii (by (go_light; omega)) (by (go_light; omega)) (by have := hsn.out; (go_light; omega))).mono ?_; rintro x6 w6 ⟨rfl, h6, hb6⟩; have c06 := h6.cell0 HA.out; have hby6 := h6.byte HA.out hql HY.out))
              go_ret2
              exact ⟨e, false, _, _, _, rfl, h7, (hB.trans hb6).trans hb7, hfin.out _ _ _ _⟩
        · have hW : Ways m cl ob d g' k V P' := hcase
          have HW : Hid _ := hW
          clear hcase hW
          have HVM : Hid _ := hVm
          clear hVm
          obtain ⟨O1, hO1⟩ : ∃ O1, O1 = O ++ em m.emit (nl (sbytes m.pre) (sbytes m.ind) (d + 1)) := ⟨_, rfl⟩
          obtain ⟨O4, hO4⟩ : ∃ O4, O4 = O1 ++ em m.emit k.out := ⟨_, rfl⟩
          have hRV : Hid (Room m O4 V) := by
            have := Ways.room HW.out hR.out
            rw [← hO1, ← hO4] at this
            exact this
          have hs4 : Hid (O1.length + (em m.emit k.out).length + m.len + 20 ≤ 140737488355328) := by
            have := hRV.out.1
            rw [hO4, List.length_append] at this
            exact this
          have HO1 : Hid _ := hO1
          have HO4 : Hid _ := hO4
          clear hO1 hO4
          obtain ⟨e2, he2⟩ : ∃ e2, e2 = q + k.n := ⟨_, rfl⟩
          have HE2 : Hid _ := he2
          clear he2
          have HK : Hid _ := hk
          clear hk
          go_upto_if 51 with (go_at_call 49; refine (newline_int _ m O l' d' (d + 1) _ (by (go_light; omega)) hr hpp hii (by (go_light; omega)) (by (go_light; omega)) (by have := hs4.out; rw [← HO1.out]; (go_light; omega))).mono ?_; rw [← HO1.out]; rintro x6 w6 ⟨rfl, h6, hb6⟩)
          go_cut [1] from 47 to 161 (fun t wx => t = .int .i64 e2 ∧ MI wx m O4 (l' + 1) (max d' (d + 1)) ∧ Below m.M w wx ∧ e2 ≤ m.len ∧ q ≤ e2)
          case first =>
            cases ob
            · obtain rfl : k = ⟨0, []⟩ := by have := HK.out; simpa [keyOf] using this.symm
              have hee : e2 = q := HE2.out
              have hOO : O4 = O1 := by rw [HO4.out]; simp [em_nil]
              subst hee hOO
              clear HE2 HO4
              go_wp2
              go_meet
              exact ⟨rfl, h6, hB.trans hb6, hq, Nat.le_refl _⟩
            · obtain ⟨hql, hy, r, hs, h58l, h58, hkk⟩ := keyOf_obj HK.out
              subst hkk
              rw [hzl] at hql h58l
              obtain ⟨e, he⟩ : ∃ e, q + 1 + r.n = e := ⟨_, rfl⟩
              rw [he] at h58 h58l
              have HE : Hid _ := he
              have HY : Hid _ := hy
              have HSS : Hid _ := hs
              have H58 : Hid _ := h58
              clear he hy hs h58
              have hk3 : Hid (34 :: (r.out ++ [58, 32]) = (34 :: r.out) ++ [58] ++ [32]) := by show _ = _; simp
              have hs7 : Hid ((O1 ++ em m.emit (34 :: r.out) ++ em m.emit [58]).length ≤ 140737488355328) := by
                have := hs4.out
                rw [hk3.out, em_append, em_append] at this
                show _ ≤ _
                simp only [List.length_append] at this ⊢
                (go_light; omega)
              have hs8 : Hid ((O1 ++ em m.emit (34 :: r.out) ++ em m.emit [58] ++ em m.emit [32]).length ≤ 140737488355328) := by
                have := hs4.out
                rw [hk3.out, em_append, em_append] at this
                show _ ≤ _
                simp only [List.length_append] at this ⊢
                (go_light; omega)
              have c06 := h6.cell0 HA.out
              have hby6 := h6.byte HA.out hql HY.out
              go_wp2_with (first
                | (go_at_call 31; refine (put_any m _ _ _ 32 _ h8 hs8.out).mono ?_; rintro x9 w9 ⟨rfl, h9, hb9⟩)
                | (go_at_call 31; refine (put_any m _ _ _ 58 _ h7 hs7.out).mono ?_; rintro x8 w8 ⟨rfl, h8, hb8⟩)
                | (go_at_call 42; refine (str_any m O1 _ _ q _ h6 hlen (by (go_light; omega)) (by have := hs4.out; (go_light; omega))).mono ?_; intro x7 w7 hx7; obtain ⟨hx7e, h7, hb7⟩ := StrPost.yes hx7 HSS.out; rw [HE.out] at hx7e; subst hx7e; have c07 := h7.cell0 HA.out; have hby7 := h7.byte HA.out h58l H58.out))
              go_meet
              refine ⟨congrArg _ (by have h1 : e2 = q + (1 + r.n + 1) := HE2.out; have h2 := HE.out; (go_light; omega)), ?_, (((hB.trans hb6).trans hb7).trans hb8).trans hb9, by have h1 : e2 = q + (1 + r.n + 1) := HE2.out; have h2 := HE.out; (go_light; omega), by have h1 : e2 = q + (1 + r.n + 1) := HE2.out; (go_light; omega)⟩
              have e : O4 = O1 ++ em m.emit (34 :: r.out) ++ em m.emit [58] ++ em m.emit [32] := by
                rw [HO4.out, hk3.out, em_append, em_append]
                simp only [List.append_assoc]
              rw [e]
              exact h9
          case rest =>
            obtain ⟨rfl, h9, hb9, he2l, hqe2⟩ := hcut
            clear hr hB h6 hb6
            have HVM2 : Hid (mj m.zs (sbytes m.pre) (sbytes m.ind) g' none e2 (d + 1) = some V) := by
              show _ = _
              rw [HE2.out]
              exact HVM.out
            rcases HW.out with ⟨hVn, hPn⟩ | ⟨r, hVr, hways⟩
            · subst hVn hPn
              have hfin : Hid (∀ q2 O2 l2 d2, MrRel m out ln dp P q2 false O2 l2 d2) := fun q2 O2 l2 d2 => hT.out _ _ _ _ _ (.inr ⟨rfl, rfl⟩)
              go_wp2_with (go_at_call 30; refine (value_int _ _ (HV.out g' (by (go_light; omega))) O4 (l' + 1) (max d' (d + 1)) e2 (d + 1) none _ rfl (by (go_light; omega)) h9 (by (go_light; omega)) (by (go_light; omega)) he2l HVM2.out hRV.out).mono ?_; rintro x7 w7 ⟨q7, b7, O7, l7, d7, rfl, h7, hb7, HM7⟩; obtain rfl := MrRel.no HM7.out)
              go_ret2
              exact ⟨q7, false, _, _, _, rfl, h7, hb9.trans hb7, hfin.out _ _ _ _⟩
            · subst hVr
              have hgood := mj_good m.zs (sbytes m.pre) (sbytes m.ind) g' none e2 (d + 1) r HVM2.out
              have hg1 : e2 < r.p := hgood.1
              have hg2 : r.p ≤ m.len := by have := hgood.2.1; rw [hzl] at this; exact this
              have hg3 : r.ln + 1 ≤ r.p - e2 := hgood.2.2.1
              clear hgood
              obtain ⟨rp, hrp⟩ : ∃ rp, r.p = rp := ⟨_, rfl⟩
              rw [hrp] at hg1 hg2 hg3 hways
              have Hrp : Hid _ := hrp
              clear hrp
              rcases hways with ⟨h44, Q2, hQ2, hP2⟩ | ⟨h44, hcl, hP2⟩ | ⟨h44, hcl, hP2⟩
              · obtain ⟨hql, hy⟩ := (isAt_iff _ _ _).1 h44
                rw [hzl] at hql
                have HY : Hid _ := hy
                have HQ2 : Hid _ := hQ2
                have HT2 : Hid (Tie m out ln dp P (O ++ em m.emit (nl (sbytes m.pre) (sbytes m.ind) (d + 1) ++ k.out ++ r.out ++ [44])) (l' + (1 + r.ln)) (max d' (max (d + 1) r.dp)) Q2) := Tie.trans hT.out (Tie.add _ _ _ hP2)
                have HR2 : Hid (Room m (O ++ em m.emit (nl (sbytes m.pre) (sbytes m.ind) (d + 1) ++ k.out ++ r.out ++ [44])) Q2) := Room.add _ _ _ hP2 hR.out
                have HX : Hid (O ++ em m.emit (nl (sbytes m.pre) (sbytes m.ind) (d + 1) ++ k.out ++ r.out ++ [44]) = O4 ++ em m.emit r.out ++ em m.emit [44]) := by
                  show _ = _
                  rw [HO4.out, HO1.out, em_append, em_append, em_append]
                  simp only [List.append_assoc]
                rw [HX.out] at HT2 HR2
                have hs8 : Hid ((O4 ++ em m.emit r.out ++ em m.emit [44]).length ≤ 140737488355328) := by
                  have := HR2.out.1
                  show _ ≤ _
                  (go_light; omega)
                clear h44 hy hQ2 hP2
                go_wp2_with (first
                  | (go_at_call 31; refine (put_any m O7 _ _ 44 _ h7 (by rw [HO7.out]; exact hs8.out)).mono ?_; rintro x8 w8 ⟨rfl, h8, hb8⟩)
                  | (go_at_call 30; refine (value_int _ _ (HV.out g' (by (go_light; omega))) O4 (l' + 1) (max d' (d + 1)) e2 (d + 1) (some r) _ rfl (by (go_light; omega)) h9 (by (go_light; omega)) (by (go_light; omega)) he2l HVM2.out hRV.out).mono ?_; rintro x7 w7 ⟨q7, b7, O7, l7, d7, rfl, h7, hb7, HM7⟩; obtain ⟨hb7t, hq7, hO7, hl7, hd7⟩ := MrRel.yes HM7.out; rw [Hrp.out] at hq7; subst hb7t; subst q7; have HO7 : Hid _ := hO7; have HL7 : Hid _ := hl7; have HD7 : Hid _ := hd7; clear hO7 hl7 hd7; have c07 := h7.cell0 HA.out; have hby7 := h7.byte HA.out hql HY.out))
                go_roundw
                case rel =>
                  refine ⟨rp + 1, l7, d7, g', _, Q2, by go_num, by (go_light; omega), by (go_light; omega), by have := HL7.out; (go_light; omega), by (go_light; omega), HQ2, ?_, ?_, h8, (hb9.trans hb7).trans hb8⟩
                  · have h1 := HT2.out
                    rw [← HO7.out, show l' + (1 + r.ln) = l7 by have := HL7.out; (go_light; omega), show max d' (max (d + 1) r.dp) = d7 by have := HD7.out; (go_light; omega)] at h1
                    exact h1
                  · have h1 := HR2.out
                    rw [← HO7.out] at h1
                    exact h1
                case measure => simp [intOf]; (go_light; omega)
              · obtain ⟨hql, hy⟩ := (isAt_iff _ _ _).1 hcl
                rw [hzl] at hql
                have HY : Hid _ := hy
                have hn44 : (cl == 44) = false := by
                  unfold isAt at h44
                  rw [hy, decide_eq_true (by (go_light; omega) : rp < m.zs.length), Bool.true_and] at h44
                  exact h44
                have HP2 : Hid _ := hP2
                have hs0 : Hid ((O ++ em m.emit (nl (sbytes m.pre) (sbytes m.ind) (d + 1) ++ k.out ++ r.out ++ nl (sbytes m.pre) (sbytes m.ind) d ++ [cl])).length + m.len + 20 ≤ 140737488355328) := Room.sub hR.out (fun r' hr' => by rw [HP2.out] at hr'; cases hr'; exact Nat.le_refl _)
                have HX : Hid (O ++ em m.emit (nl (sbytes m.pre) (sbytes m.ind) (d + 1) ++ k.out ++ r.out ++ nl (sbytes m.pre) (sbytes m.ind) d ++ [cl]) = O4 ++ em m.emit r.out ++ em m.emit (nl (sbytes m.pre) (sbytes m.ind) d) ++ em m.emit [cl]) := by
                  show _ = _
                  rw [HO4.out, HO1.out, em_append, em_append, em_append, em_append]
                  simp only [List.append_assoc]
                have hs8 : Hid ((O4 ++ em m.emit r.out ++ em m.emit (nl (sbytes m.pre) (sbytes m.ind) d)).length ≤ 140737488355328) := by
                  have := hs0.out
                  rw [HX.out, List.length_append] at this
                  show _ ≤ _
                  (go_light; omega)
                have hs9 : Hid ((O4 ++ em m.emit r.out ++ em m.emit (nl (sbytes m.pre) (sbytes m.ind) d) ++ em m.emit [cl]).length ≤ 140737488355328) := by
                  have := hs0.out
                  rw [HX.out] at this
                  show _ ≤ _
                  (go_light; omega)
                clear h44 hy hP2 hcl
                go_wp2_with (first
                  | (go_at_call 31; refine (put_any m _ _ _ cl _ h8 (by rw [HO7.out]; exact hs9.out)).mono ?_; rintro xa wa ⟨rfl, hxa, hba⟩)
                  | (go_at_call 49; refine (newline_int _ m O7 l7 d7 d _ rfl h7 hpp hii (by have := HL7.out; (go_light; omega)) (by (go_light; omega)) (by rw [HO7.out]; exact hs8.out)).mono ?_; rintro x8 w8 ⟨rfl, h8, hb8⟩)
                  | (go_at_call 30; refine (value_int _ _ (HV.out g' (by (go_light; omega))) O4 (l' + 1) (max d' (d + 1)) e2 (d + 1) (some r) _ rfl (by (go_light; omega)) h9 (by (go_light; omega)) (by (go_light; omega)) he2l HVM2.out hRV.out).mono ?_; rintro x7 w7 ⟨q7, b7, O7, l7, d7, rfl, h7, hb7, HM7⟩; obtain ⟨hb7t, hq7, hO7, hl7, hd7⟩ := MrRel.yes HM7.out; rw [Hrp.out] at hq7; subst hb7t; subst q7; have HO7 : Hid _ := hO7; have HL7 : Hid _ := hl7; have HD7 : Hid _ := hd7; clear hO7 hl7 hd7; have c07 := h7.cell0 HA.out; have hby7 := h7.byte HA.out hql HY.out))
                go_ret2
                refine ⟨rp + 1, true, _, _, _, by first | rfl | exact ret2 (by (go_light; omega)), hxa, ((hb9.trans hb7).trans hb8).trans hba, hT.out _ _ _ _ _ (.inl ⟨rfl, _, HP2.out, rfl, ?_, ?_, ?_⟩)⟩
                · rw [HX.out, HO7.out]
                · have := HL7.out
                  show l7 + 1 = l' + (1 + r.ln + 1)
                  (go_light; omega)
                · have := HD7.out
                  show max d7 d = max d' (max (d + 1) r.dp)
                  (go_light; omega)
              · subst hP2
                have hfin : Hid (∀ q2 O2 l2 d2, MrRel m out ln dp P q2 false O2 l2 d2) := fun q2 O2 l2 d2 => hT.out _ _ _ _ _ (.inr ⟨rfl, rfl⟩)
                by_cases hql : rp < m.len
                · obtain ⟨y, hy⟩ : ∃ y, m.zs.getD rp 0 = y := ⟨_, rfl⟩
                  have HY : Hid _ := hy
                  have e44 : (y == 44) = false := by
                    unfold isAt at h44
                    rw [hy, decide_eq_true (by (go_light; omega) : rp < m.zs.length), Bool.true_and] at h44
                    exact h44
                  have ecl : (y == cl) = false := by
                    unfold isAt at hcl
                    rw [hy, decide_eq_true (by (go_light; omega) : rp < m.zs.length), Bool.true_and] at hcl
                    exact hcl
                  clear h44 hcl hy
                  go_wp2_with (go_at_call 30; refine (value_int _ _ (HV.out g' (by (go_light; omega))) O4 (l' + 1) (max d' (d + 1)) e2 (d + 1) (some r) _ rfl (by (go_light; omega)) h9 (by (go_light; omega)) (by (go_light; omega)) he2l HVM2.out hRV.out).mono ?_; rintro x7 w7 ⟨q7, b7, O7, l7, d7, rfl, h7, hb7, HM7⟩; obtain ⟨hb7t, hq7, hO7, hl7, hd7⟩ := MrRel.yes HM7.out; rw [Hrp.out] at hq7; subst hb7t; subst q7; have HO7 : Hid _ := hO7; have HL7 : Hid _ := hl7; have HD7 : Hid _ := hd7; clear hO7 hl7 hd7; have c07 := h7.cell0 HA.out; have hby7 := h7.byte HA.out hql HY.out)
                  go_ret2
                  exact ⟨rp, false, _, _, _, rfl, h7, hb9.trans hb7, hfin.out _ _ _ _⟩
                · clear h44 hcl
                  go_wp2_with (go_at_call 30; refine (value_int _ _ (HV.out g' (by (go_light; omega))) O4 (l' + 1) (max d' (d + 1)) e2 (d + 1) (some r) _ rfl (by (go_light; omega)) h9 (by (go_light; omega)) (by (go_light; omega)) he2l HVM2.out hRV.out).mono ?_; rintro x7 w7 ⟨q7, b7, O7, l7, d7, rfl, h7, hb7, HM7⟩; obtain ⟨hb7t, hq7, hO7, hl7, hd7⟩ := MrRel.yes HM7.out; rw [Hrp.out] at hq7; subst hb7t; subst q7; have HO7 : Hid _ := hO7; have HL7 : Hid _ := hl7; have HD7 : Hid _ := hd7; clear hO7 hl7 hd7; have c07 := h7.cell0 HA.out)
                  go_ret2
                  exact ⟨rp, false, _, _, _, rfl, h7, hb9.trans hb7, hfin.out _ _ _ _⟩
end Go.Proofs.Qxb6603067a
