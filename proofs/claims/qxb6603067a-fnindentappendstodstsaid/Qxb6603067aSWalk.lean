/-
  THE WALKS of the layout model's str (42), with zzHexDigitB1 (50) and zzHTMLCharB1 (51).
-/
import Derived.Test.Qxb6603067aMWalk
namespace Go.Proofs.Qxb6603067a
open Go.RowKit
open Plain

theorem ret_bool {a b : Bool} (h : a = b) : Ending.returned (.bool a) = .returned (.bool b) := by rw [h]
theorem ret_u8 {a b : Int} (h : a = b) : Ending.returned (.int .u8 a) = .returned (.int .u8 b) := by rw [h]

theorem hex_no {b : Int} (h1 : ¬ (48 ≤ b ∧ b ≤ 57)) (h2 : ¬ (97 ≤ b ∧ b ≤ 102)) (h3 : ¬ (65 ≤ b ∧ b ≤ 70)) : hex b = false := by
  cases h : hex b
  · rfl
  · simp only [hex, dg, Bool.or_eq_true, Bool.and_eq_true, decide_eq_true_eq] at h
    omega

set_option maxRecDepth 10000 in
set_option maxHeartbeats 400000 in
theorem hex_any (b : Int) (w : World) : Calls Try.prog 50 #[.int .u8 b] w fun x w' => x = .returned (.bool (hex b)) ∧ w' = w := by
  by_cases h1 : 48 ≤ b
  · by_cases h2 : b ≤ 57
    · go_enter Try.func50, Try.ntmps50
      go_wp2
      go_ret
      exact ⟨ret_bool (by simp [hex, dg, h1, h2]), rfl⟩
    · by_cases h3 : 97 ≤ b
      · by_cases h4 : b ≤ 102
        · go_enter Try.func50, Try.ntmps50
          go_wp2
          go_ret
          exact ⟨ret_bool (by simp [hex, dg, h3, h4]), rfl⟩
        · go_enter Try.func50, Try.ntmps50
          go_wp2
          go_ret
          exact ⟨ret_bool (by first | exact (hex_no (b := b) (by omega) (by omega) (by omega)).symm | exact (decide_eq_false (by omega)).trans (hex_no (b := b) (by omega) (by omega) (by omega)).symm), rfl⟩
      · by_cases h5 : 65 ≤ b
        · by_cases h6 : b ≤ 70
          · go_enter Try.func50, Try.ntmps50
            go_wp2
            go_ret
            exact ⟨ret_bool (by simp [hex, dg, h5, h6]), rfl⟩
          · go_enter Try.func50, Try.ntmps50
            go_wp2
            go_ret
            exact ⟨ret_bool (by first | exact (hex_no (b := b) (by omega) (by omega) (by omega)).symm | exact (decide_eq_false (by omega)).trans (hex_no (b := b) (by omega) (by omega) (by omega)).symm), rfl⟩
        · go_enter Try.func50, Try.ntmps50
          go_wp2
          go_ret
          exact ⟨ret_bool (by first | exact (hex_no (b := b) (by omega) (by omega) (by omega)).symm | exact (decide_eq_false (by omega)).trans (hex_no (b := b) (by omega) (by omega) (by omega)).symm), rfl⟩
  · go_enter Try.func50, Try.ntmps50
    go_wp2
    go_ret
    exact ⟨ret_bool (by first | exact (hex_no (b := b) (by omega) (by omega) (by omega)).symm | exact (decide_eq_false (by omega)).trans (hex_no (b := b) (by omega) (by omega) (by omega)).symm), rfl⟩

set_option maxRecDepth 10000 in
set_option maxHeartbeats 400000 in
theorem html_any (b off len cap q : Nat) (h1 h2 h3 h4 : Int) (w : World) (hlen : len ≤ 1048576) (hq : q + 4 ≤ len) (c1 : w.cell? ⟨b, off + q, none⟩ = some (.int .u8 h1)) (c2 : w.cell? ⟨b, off + (q + 1), none⟩ = some (.int .u8 h2))
    (c3 : w.cell? ⟨b, off + (q + 2), none⟩ = some (.int .u8 h3)) (c4 : w.cell? ⟨b, off + (q + 3), none⟩ = some (.int .u8 h4)) :
    Calls Try.prog 51 #[.slice (some ⟨b, off, none⟩) len cap, .int .i64 q] w fun x w' => x = .returned (.int .u8 (html h1 h2 h3 h4)) ∧ w' = w := by
  cases e1 : (h1 != 48)
  · cases e2 : (h2 != 48)
    · have f1 : h1 = 48 := by simpa using e1
      have f2 : h2 = 48 := by simpa using e2
      have HF : Hid (h1 = 48 ∧ h2 = 48) := ⟨f1, f2⟩
      clear f1 f2
      cases e3 : (h3 == 51)
      · cases e5 : (h3 == 50)
        · have HN : Hid (¬ h3 = 51 ∧ ¬ h3 = 50) := ⟨by simpa using e3, by simpa using e5⟩
          go_enter Try.func51, Try.ntmps51
          go_wp2
          go_ret
          exact ⟨ret_u8 (by unfold html; rw [if_pos HF.out, if_neg (fun h => HN.out.1 h.1), if_neg (fun h => HN.out.1 h.1), if_neg (fun h => HN.out.2 h.1)]), rfl⟩
        · cases e6 : (h4 == 54)
          · have HN : Hid (¬ h3 = 51 ∧ h3 = 50 ∧ ¬ h4 = 54) := ⟨by simpa using e3, by simpa using e5, by simpa using e6⟩
            go_enter Try.func51, Try.ntmps51
            go_wp2
            go_ret
            exact ⟨ret_u8 (by unfold html; rw [if_pos HF.out, if_neg (fun h => HN.out.1 h.1), if_neg (fun h => HN.out.1 h.1), if_neg (fun h => HN.out.2.2 h.2)]), rfl⟩
          · have HN : Hid (¬ h3 = 51 ∧ h3 = 50 ∧ h4 = 54) := ⟨by simpa using e3, by simpa using e5, by simpa using e6⟩
            go_enter Try.func51, Try.ntmps51
            go_wp2
            go_ret
            exact ⟨ret_u8 (by unfold html; rw [if_pos HF.out, if_neg (fun h => HN.out.1 h.1), if_neg (fun h => HN.out.1 h.1), if_pos HN.out.2]), rfl⟩
      · have e5 : (h3 == 50) = false := by have : h3 = 51 := by simpa using e3
                                           simp [this]
        cases e6 : (h4 == 99)
        · cases e7 : (h4 == 101)
          · have HN : Hid (h3 = 51 ∧ ¬ h4 = 99 ∧ ¬ h4 = 101) := ⟨by simpa using e3, by simpa using e6, by simpa using e7⟩
            go_enter Try.func51, Try.ntmps51
            go_wp2
            go_ret
            exact ⟨ret_u8 (by unfold html; rw [if_pos HF.out, if_neg (fun h => HN.out.2.1 h.2), if_neg (fun h => HN.out.2.2 h.2), if_neg (by rw [HN.out.1]; simp)]), rfl⟩
          · have HN : Hid (h3 = 51 ∧ ¬ h4 = 99 ∧ h4 = 101) := ⟨by simpa using e3, by simpa using e6, by simpa using e7⟩
            go_enter Try.func51, Try.ntmps51
            go_wp2
            go_ret
            exact ⟨ret_u8 (by unfold html; rw [if_pos HF.out, if_neg (fun h => HN.out.2.1 h.2), if_pos ⟨HN.out.1, HN.out.2.2⟩]), rfl⟩
        · have HN : Hid (h3 = 51 ∧ h4 = 99) := ⟨by simpa using e3, by simpa using e6⟩
          go_enter Try.func51, Try.ntmps51
          go_wp2
          go_ret
          exact ⟨ret_u8 (by unfold html; rw [if_pos HF.out, if_pos HN.out]), rfl⟩
    · have HN : Hid (¬ h2 = 48) := show ¬ h2 = 48 by simpa using e2
      go_enter Try.func51, Try.ntmps51
      go_wp2
      go_ret
      exact ⟨ret_u8 (by unfold html; rw [if_neg (fun h => HN.out h.2)]), rfl⟩
  · have HN : Hid (¬ h1 = 48) := show ¬ h1 = 48 by simpa using e1
    go_enter Try.func51, Try.ntmps51
    go_wp2
    go_ret
    exact ⟨ret_u8 (by unfold html; rw [if_neg (fun h => HN.out h.1)]), rfl⟩

/-! ### str -/
/-- where the string's rest from p0 on stands at place q: what is read and written so far -/
def SRel (zs : List Int) (p0 q : Nat) (X : List Int) : Prop := p0 ≤ q ∧ X.length ≤ q - p0 ∧ str zs p0 = (str zs q).map fun r => r.more (q - p0) X

theorem SRel.start (zs : List Int) (p0 : Nat) : SRel zs p0 p0 [] := by
  refine ⟨Nat.le_refl _, by simp, ?_⟩
  rw [Nat.sub_self]
  cases str zs p0 with
  | none => rfl
  | some r => simp [Piece.more]

theorem SRel.go {zs : List Int} {p0 q : Nat} {X : List Int} {n : Nat} {o : List Int} (h : SRel zs p0 q X) (hs : sstep zs q = some ⟨false, n, o⟩) : SRel zs p0 (q + n) (X ++ o) := by
  obtain ⟨h1, h2, h3⟩ := h
  have hp := sstep_pos hs
  have hl := sstep_len hs
  refine ⟨by omega, by simp at hl ⊢; omega, ?_⟩
  rw [h3, str_eq zs q, hs]
  simp only [Bool.false_eq_true, if_false, Option.map_map]
  congr 1
  funext r
  simp [Piece.more]
  omega

theorem SRel.fin {zs : List Int} {p0 q : Nat} {X : List Int} {n : Nat} {o : List Int} (h : SRel zs p0 q X) (hs : sstep zs q = some ⟨true, n, o⟩) : str zs p0 = some ⟨q - p0 + n, X ++ o⟩ := by
  rw [h.2.2, str_eq zs q, hs]
  simp [Piece.more]

theorem SRel.fail {zs : List Int} {p0 q : Nat} {X : List Int} (h : SRel zs p0 q X) (hs : sstep zs q = none) : str zs p0 = none := by
  rw [h.2.2, str_eq zs q, hs]
  rfl

theorem st_end {c : List Int} {p : Nat} (h : p < c.length) (hb : c.getD p 0 = 34) : sstep c p = some ⟨true, 1, [34]⟩ := by
  unfold sstep; simp only [if_pos h, hb, if_true]
theorem st_low {c : List Int} {p : Nat} (h : p < c.length) (hb : c.getD p 0 < 32) : sstep c p = none := by
  unfold sstep; simp only [if_pos h]; rw [if_neg (by omega), if_pos hb]
theorem st_plain {c : List Int} {p : Nat} {b : Int} (h : p < c.length) (hb : c.getD p 0 = b) (h1 : b ≠ 34) (h2 : 32 ≤ b) (h3 : b ≠ 92) : sstep c p = some ⟨false, 1, [b]⟩ := by
  unfold sstep; simp only [if_pos h, hb]; rw [if_neg h1, if_neg (by omega), if_pos h3]
theorem st_cut {c : List Int} {p : Nat} (h : p < c.length) (hb : c.getD p 0 = 92) (h1 : ¬ p + 1 < c.length) : sstep c p = none := by
  unfold sstep; simp only [if_pos h, hb]; rw [if_neg (by omega), if_neg (by omega), if_neg (by omega), if_neg h1]
theorem st_esc {c : List Int} {p : Nat} {e : Int} (hb : c.getD p 0 = 92) (h1 : p + 1 < c.length) (he : c.getD (p + 1) 0 = e) (h2 : esc1 e = true) : sstep c p = some ⟨false, 2, [92, e]⟩ := by
  unfold sstep; simp only [if_pos (show p < c.length by omega), hb, if_pos h1, he]; rw [if_neg (by omega), if_neg (by omega), if_neg (by omega), if_pos h2]
theorem st_not {c : List Int} {p : Nat} {e : Int} (hb : c.getD p 0 = 92) (h1 : p + 1 < c.length) (he : c.getD (p + 1) 0 = e) (h2 : esc1 e = false) (h3 : e ≠ 117 ∨ ¬ p + 6 ≤ c.length) : sstep c p = none := by
  unfold sstep; simp only [if_pos (show p < c.length by omega), hb, if_pos h1, he, h2]; rw [if_neg (by omega), if_neg (by omega), if_neg (by omega), if_neg (by simp)]
  rcases h3 with h3 | h3
  · rw [if_pos h3]
  · rw [if_neg h3]; split <;> rfl
theorem st_hex {c : List Int} {p : Nat} (hb : c.getD p 0 = 92) (h1 : p + 6 ≤ c.length) (he : c.getD (p + 1) 0 = 117) (k : Nat) (hk : k < 4) (hx : hex (c.getD (p + 2 + k) 0) = false) : sstep c p = none := by
  unfold sstep; simp only [if_pos (show p < c.length by omega), hb, if_pos (show p + 1 < c.length by omega), he, if_pos h1]
  rw [if_neg (by omega), if_neg (by omega), if_neg (by omega), if_neg (by decide), if_neg (by omega), if_neg]
  simp only [Bool.and_eq_true, not_and]
  intro a1 a2
  rw [show p + 2 + k = p + (2 + k) by omega] at hx
  match k, hk, hx with
  | 0, _, hx => rw [a1.1.1] at hx; cases hx
  | 1, _, hx => rw [a1.1.2] at hx; cases hx
  | 2, _, hx => rw [a1.2] at hx; cases hx
  | 3, _, hx => rw [a2] at hx; cases hx
theorem st_uni {c : List Int} {p : Nat} {h1 h2 h3 h4 : Int} (hb : c.getD p 0 = 92) (hl : p + 6 ≤ c.length) (he : c.getD (p + 1) 0 = 117) (e1 : c.getD (p + 2) 0 = h1) (e2 : c.getD (p + 3) 0 = h2) (e3 : c.getD (p + 4) 0 = h3) (e4 : c.getD (p + 5) 0 = h4)
    (x1 : hex h1 = true) (x2 : hex h2 = true) (x3 : hex h3 = true) (x4 : hex h4 = true) : sstep c p = some ⟨false, 6, if html h1 h2 h3 h4 = 0 then [92, 117, h1, h2, h3, h4] else [html h1 h2 h3 h4]⟩ := by
  unfold sstep; simp only [if_pos (show p < c.length by omega), hb, if_pos (show p + 1 < c.length by omega), he, if_pos hl, e1, e2, e3, e4, x1, x2, x3, x4]
  rw [if_neg (by omega), if_neg (by omega), if_neg (by omega), if_neg (by decide), if_neg (by omega), if_pos (by simp)]


theorem esc_no {e : Int} (h : esc1 e = false) : (e == 34) = false ∧ (e == 92) = false ∧ (e == 47) = false ∧ (e == 98) = false ∧ (e == 102) = false ∧ (e == 110) = false ∧ (e == 114) = false ∧ (e == 116) = false := by
  simp only [esc1, Bool.or_eq_false_iff] at h
  obtain ⟨⟨⟨⟨⟨⟨⟨h1, h2⟩, h3⟩, h4⟩, h5⟩, h6⟩, h7⟩, h8⟩ := h
  exact ⟨h1, h2, h3, h4, h5, h6, h7, h8⟩
theorem esc_yes {e : Int} (h : esc1 e = true) : e = 34 ∨ e = 92 ∨ e = 47 ∨ e = 98 ∨ e = 102 ∨ e = 110 ∨ e = 114 ∨ e = 116 := by
  simp only [esc1, Bool.or_eq_true, beq_iff_eq] at h
  omega

theorem bytes_cells {w : World} {B len b off : Nat} {a : Option Addr} {zs : List Int} (h : Bytes w B a len zs) (ha : a = some ⟨b, off, none⟩) : ∀ i, i < len → w.cell? ⟨b, off + i, none⟩ = some (.int .u8 (zs.getD i 0)) := by
  intro i hi
  rcases h.2 with h0 | ⟨b', off', hab, _, hc⟩
  · omega
  · rw [ha] at hab
    cases hab
    exact hc i hi

/-- what str answers -/
def StrPost (m : Mod) (out : List Int) (ln dp : Nat) (w : World) (p0 : Nat) (x : Ending) (w' : World) : Prop :=
  (∃ r, str m.zs p0 = some r ∧ x = .returned (.tuple #[.int .i64 (p0 + r.n : Nat), .bool true]) ∧ MI w' m (out ++ em m.emit (34 :: r.out)) ln dp ∧ Below m.M w w') ∨
  (str m.zs p0 = none ∧ ∃ (q : Nat) (O : List Int), x = .returned (.tuple #[.int .i64 q, .bool false]) ∧ MI w' m O ln dp ∧ Below m.M w w')

theorem em_one (emit : Bool) (b : Int) : (em emit [b]).length ≤ 1 := by cases emit <;> simp [em]

theorem two_int_bool {x y : Int} {b : Bool} (h : x = y) : Ending.returned (.tuple #[.int .i64 x, .bool b]) = .returned (.tuple #[.int .i64 y, .bool b]) := by rw [h]

set_option maxRecDepth 10000 in
set_option maxHeartbeats 2000000 in
theorem str_any (m : Mod) (out : List Int) (ln dp p : Nat) (w : World) (h : MI w m out ln dp) (hlen : m.len ≤ 1048576) (hp : p ≤ 1048577) (hol : out.length + m.len + 20 ≤ 140737488355328) :
    Calls Try.prog 42 #[.pointer (some ⟨m.M, 0, none⟩), .int .i64 p] w (StrPost m out ln dp w (p + 1)) := by
  have hzl : m.zs.length = m.len := by obtain ⟨_, _, _, _, _, _, _, _, _, _, _, _, _, hby, _⟩ := h; exact hby.1
  go_enter Try.func42, Try.ntmps42
  go_wp2_with (go_at_call 31; refine (put_any m out ln dp 34 _ h ?_).mono ?_; (rw [List.length_append]; have := em_one m.emit 34; omega); rintro x w1 ⟨rfl, h1, hb1⟩)
  go_loopw [1] (fun i wr => ∃ (q : Nat) (X O : List Int), i = .int .i64 q ∧ q ≤ 1048590 ∧ Hid (SRel m.zs (p + 1) q X) ∧ Hid (O = out ++ em m.emit (34 :: X)) ∧ O.length ≤ out.length + 1 + (q - (p + 1)) ∧ MI wr m O ln dp ∧ Below m.M w wr) (fun i _ => 1048600 - (intOf i).toNat)
  case atStart => exact ⟨p + 1, [], _, by go_num, by omega, SRel.start _ _, show _ = _ from rfl, by rw [List.length_append]; have := em_one m.emit 34; omega, h1, hb1⟩
  case round =>
    obtain ⟨q, X, O, rfl, hq, hS, hO, hOl, hr, hB⟩ := hrel
    have h' := hr
    obtain ⟨ao, co, c0, c1, c2, c3, c4, c5, c6, f4, f5, f6, ho, hby, hM⟩ := h'
    clear c1 c2 c3 c4 c5 c6 f4 f5 f6 ho h h1 hb1
    by_cases hlt : q < m.len
    · obtain ⟨b, off, ha, hbW, hcs⟩ : ∃ b off, m.a = some ⟨b, off, none⟩ ∧ b < m.M ∧ ∀ i, i < m.len → wr.cell? ⟨b, off + i, none⟩ = some (.int .u8 (m.zs.getD i 0)) := by
        rcases hby.2 with h0 | h
        · omega
        · exact h
      have HCS : Hid _ := hcs
      clear hcs
      rw [ha] at c0
      have hcq := HCS.out q hlt
      obtain ⟨y, hy⟩ : ∃ y, m.zs.getD q 0 = y := ⟨_, rfl⟩
      rw [hy] at hcq
      have HY : Hid (m.zs.getD q 0 = y) := hy
      clear hy
      cases e34 : (y == 34)
      · by_cases hlow : y < 32
        · as_aux_lemma =>
            have hres := hS.out.fail (st_low (by omega) (by rw [HY.out]; exact hlow))
            have HRES : Hid _ := hres
            clear hres
            go_wp2_with fail
            go_ret2
            exact .inr ⟨HRES.out, q, O, rfl, hr, hB⟩
        · cases e92 : (y != 92)
          · have H92 : Hid (m.zs.getD q 0 = 92) := show m.zs.getD q 0 = 92 by rw [HY.out]; simpa using e92
            by_cases hl1 : q + 1 < m.len
            · have hc1 := HCS.out (q + 1) hl1
              obtain ⟨e, he⟩ : ∃ e, m.zs.getD (q + 1) 0 = e := ⟨_, rfl⟩
              rw [he] at hc1
              have HE : Hid (m.zs.getD (q + 1) 0 = e) := he
              clear he
              cases hes : esc1 e
              · obtain ⟨n1, n2, n3, n4, n5, n6, n7, n8⟩ := esc_no hes
                have HES : Hid _ := hes
                clear hes
                cases e117 : (e != 117)
                · have HE117 : Hid (e = 117) := show e = 117 by simpa using e117
                  by_cases hl6 : q + 6 ≤ m.len
                  · as_aux_lemma =>
                      have hL : q + 6 ≤ m.zs.length := by omega
                      go_wp2_with fail
                      go_loop [8] (fun i => ∃ c : Nat, c ≤ 4 ∧ i = .int .i64 ((q : Int) + 2 + c) ∧ Hid (∀ k, k < c → hex (m.zs.getD (q + 2 + k) 0) = true)) (fun i => q + 10 - (intOf i).toNat)
                      case atStart => exact ⟨0, by omega, by go_num, fun k hk => by omega⟩
                      case round =>
                        obtain ⟨c, hc4, rfl, hhex⟩ := hrel
                        by_cases hlt4 : c < 4
                        · have hcc := HCS.out (q + 2 + c) (by omega)
                          obtain ⟨x, hx⟩ : ∃ x, m.zs.getD (q + 2 + c) 0 = x := ⟨_, rfl⟩
                          rw [hx] at hcc
                          have HX : Hid (m.zs.getD (q + 2 + c) 0 = x) := hx
                          clear hx
                          cases hxx : hex x
                          · have hres := hS.out.fail (st_hex H92.out hL (by rw [HE.out, HE117.out]) c hlt4 (by rw [HX.out]; exact hxx))
                            have HRES : Hid _ := hres
                            clear hres
                            go_wp2_with (go_at_call 50; refine (hex_any x _).mono ?_; rw [hxx]; rintro z w5 ⟨rfl, rfl⟩)
                            go_ret2
                            exact .inr ⟨HRES.out, q, O, rfl, hr, hB⟩
                          · go_wp2_with (go_at_call 50; refine (hex_any x _).mono ?_; rw [hxx]; rintro z w5 ⟨rfl, rfl⟩)
                            go_round
                            case rel => exact ⟨c + 1, by omega, by go_num, fun k hk => by
                              by_cases hkc : k < c
                              · exact hhex.out k hkc
                              · obtain rfl : k = c := by omega
                                rw [HX.out]; exact hxx⟩
                            case measure => simp [intOf]; omega
                        · obtain rfl : c = 4 := by omega
                          have hx0 := hhex.out 0 (by omega)
                          have hx1 := hhex.out 1 (by omega)
                          have hx2 := hhex.out 2 (by omega)
                          have hx3 := hhex.out 3 (by omega)
                          have hd0 := HCS.out (q + 2) (by omega)
                          have hd1 := HCS.out (q + 2 + 1) (by omega)
                          have hd2 := HCS.out (q + 2 + 2) (by omega)
                          have hd3 := HCS.out (q + 2 + 3) (by omega)
                          obtain ⟨y0, hy0⟩ : ∃ y0, m.zs.getD (q + 2) 0 = y0 := ⟨_, rfl⟩
                          obtain ⟨y1, hy1⟩ : ∃ y0, m.zs.getD (q + 2 + 1) 0 = y0 := ⟨_, rfl⟩
                          obtain ⟨y2, hy2⟩ : ∃ y0, m.zs.getD (q + 2 + 2) 0 = y0 := ⟨_, rfl⟩
                          obtain ⟨y3, hy3⟩ : ∃ y0, m.zs.getD (q + 2 + 3) 0 = y0 := ⟨_, rfl⟩
                          rw [Nat.add_zero, hy0] at hx0
                          rw [hy1] at hx1 hd1
                          rw [hy2] at hx2 hd2
                          rw [hy3] at hx3 hd3
                          rw [hy0] at hd0
                          have hst := st_uni H92.out hL (by rw [HE.out, HE117.out]) hy0 hy1 hy2 hy3 hx0 hx1 hx2 hx3
                          have hres := hS.out.go hst
                          have HRES : Hid _ := hres
                          have HY4 : Hid (m.zs.getD (q + 2) 0 = y0 ∧ m.zs.getD (q + 2 + 1) 0 = y1 ∧ m.zs.getD (q + 2 + 2) 0 = y2 ∧ m.zs.getD (q + 2 + 3) 0 = y3) := ⟨hy0, hy1, hy2, hy3⟩
                          clear hst hres hy0 hy1 hy2 hy3 hx0 hx1 hx2 hx3 hhex
                          obtain ⟨z, hz⟩ : ∃ z, html y0 y1 y2 y3 = z := ⟨_, rfl⟩
                          rw [hz] at HRES
                          have HZ : Hid (html y0 y1 y2 y3 = z) := hz
                          clear hz
                          cases ez : (z != 0)
                          · have hz0 : z = 0 := by simpa using ez
                            rw [if_pos hz0] at HRES
                            clear hz0
                            go_wp2_with (go_at_call 51; refine (html_any b off m.len m.cap (q + 2) y0 y1 y2 y3 _ hlen (by omega) hd0 hd1 hd2 hd3).mono ?_; rw [HZ.out]; rintro z5 w5 ⟨rfl, rfl⟩)
                            have HR5 : Hid _ := hr
                            have HB5 : Hid _ := hB
                            go_loopw [10] (fun i wx => ∃ (c : Nat) (O' : List Int), c ≤ 6 ∧ i = .int .i64 ((q : Int) + c) ∧ Hid (O' = O ++ em m.emit (([92, 117, y0, y1, y2, y3] : List Int).take c)) ∧ O'.length ≤ O.length + c ∧ MI wx m O' ln dp ∧ Below m.M w wx) (fun i _ => q + 10 - (intOf i).toNat)
                            case atStart => exact ⟨0, O, by omega, by go_num, show _ = _ by simp [em_nil], by omega, hr, hB⟩
                            case round =>
                              obtain ⟨c, O', hc6, rfl, hO', hO'l, hr', hB'⟩ := hrel
                              have h' := hr'
                              obtain ⟨ao', co', d0, _, _, _, _, _, _, _, _, _, _, hby', hM'⟩ := h'
                              rw [ha] at d0
                              clear hr hB c0 hcq hc1 hd0 hd1 hd2 hd3 hby hM
                              by_cases hlt6 : c < 6
                              · have hcell : ∃ x, wr.cell? ⟨b, off + (q + c), none⟩ = some (.int .u8 x) ∧ (([92, 117, y0, y1, y2, y3] : List Int).take (c + 1)) = (([92, 117, y0, y1, y2, y3] : List Int).take c) ++ [x] := by
                                  have hh := (bytes_cells hby' ha) (q + c) (by omega)
                                  have h4 := HY4.out
                                  match c, hlt6, hh with
                                  | 0, _, hh => exact ⟨92, by rw [hh, ← H92.out]; rfl, rfl⟩
                                  | 1, _, hh => exact ⟨117, by rw [hh]; congr 2; exact HE.out.trans HE117.out, rfl⟩
                                  | 2, _, hh => exact ⟨y0, by rw [hh]; congr 2; exact h4.1, rfl⟩
                                  | 3, _, hh => exact ⟨y1, by rw [hh]; congr 2; exact h4.2.1, rfl⟩
                                  | 4, _, hh => exact ⟨y2, by rw [hh]; congr 2; exact h4.2.2.1, rfl⟩
                                  | 5, _, hh => exact ⟨y3, by rw [hh]; congr 2; exact h4.2.2.2, rfl⟩
                                obtain ⟨x, hx1, hx2⟩ := hcell
                                have HX2 : Hid _ := hx2
                                clear hx2
                                go_wp2_with (go_at_call 31; refine (put_any m O' ln dp x _ hr' ?_).mono ?_; (rw [List.length_append]; have := em_one m.emit x; have := hS.out.1; omega); rintro x5 w6 ⟨rfl, h6, hb6⟩)
                                go_roundw
                                case rel => exact ⟨c + 1, _, by omega, by go_num, show _ = _ by rw [hO'.out, List.append_assoc, ← em_append, HX2.out], by rw [List.length_append]; have := em_one m.emit x; omega, h6, hB'.trans hb6⟩
                                case measure => simp [intOf]; omega
                              · obtain rfl : c = 6 := by omega
                                go_wp2_with fail
                                go_roundw
                                case rel => exact ⟨q + 6, _, O', by go_num, by omega, HRES.out, show _ = _ by rw [hO'.out, hO.out, List.append_assoc, ← em_append]; rfl, by have := hS.out.1; omega, hr', hB'⟩
                                case measure => simp [intOf]; omega
                          · have hz0 : ¬ z = 0 := by simpa using ez
                            rw [if_neg hz0] at HRES
                            clear hz0
                            go_wp2_with (first
                              | (go_at_call 51; refine (html_any b off m.len m.cap (q + 2) y0 y1 y2 y3 _ hlen (by omega) hd0 hd1 hd2 hd3).mono ?_; rw [HZ.out]; rintro z5 w5 ⟨rfl, rfl⟩)
                              | (go_at_call 31; refine (put_any m O ln dp z _ hr ?_).mono ?_; (rw [List.length_append]; have := em_one m.emit z; have := hS.out.1; omega); rintro x w1 ⟨rfl, h1, hb1⟩))
                            go_roundw
                            case rel => exact ⟨q + 6, _, _, by go_num, by omega, HRES.out, show _ = _ by rw [hO.out, List.append_assoc, ← em_append]; rfl, by rw [List.length_append]; have := em_one m.emit z; have := hS.out.1; omega, h1, hB.trans hb1⟩
                            case measure => simp [intOf]; omega
                  · as_aux_lemma =>
                      have hres := hS.out.fail (st_not H92.out (by omega) HE.out HES.out (.inr (by omega)))
                      have HRES : Hid _ := hres
                      clear hres
                      go_wp2_with fail
                      go_ret2
                      exact .inr ⟨HRES.out, q, O, rfl, hr, hB⟩
                · as_aux_lemma =>
                    have hres := hS.out.fail (st_not H92.out (by omega) HE.out HES.out (.inl (by simpa using e117)))
                    have HRES : Hid _ := hres
                    clear hres
                    go_wp2_with fail
                    go_ret2
                    exact .inr ⟨HRES.out, q, O, rfl, hr, hB⟩
              · as_aux_lemma =>
                  have hres := hS.out.go (st_esc H92.out (by omega) HE.out hes)
                  have HRES : Hid _ := hres
                  clear hres
                  rcases esc_yes hes with rfl | rfl | rfl | rfl | rfl | rfl | rfl | rfl
                  all_goals as_aux_lemma =>
                    clear hes
                    go_wp2_with (first
                      | (go_at_call 31; refine (put_any m (O ++ em m.emit [92]) ln dp _ _ h1 ?_).mono ?_; (rw [List.length_append, List.length_append]; have := em_one m.emit 92; have := hS.out.1; have := em_one m.emit; simp only [em] at *; split <;> simp <;> omega); rintro x w2 ⟨rfl, h2, hb2⟩)
                      | (go_at_call 31; refine (put_any m O ln dp 92 _ hr ?_).mono ?_; (rw [List.length_append]; have := em_one m.emit 92; have := hS.out.1; omega); rintro x w1 ⟨rfl, h1, hb1⟩))
                    go_roundw
                    case rel => exact ⟨q + 2, _, _, by go_num, by omega, HRES.out, show _ = _ by rw [hO.out, List.append_assoc, List.append_assoc, ← em_append, ← em_append]; rfl, by rw [List.length_append, List.length_append]; have := hS.out.1; have a1 := em_one m.emit 92; have a2 := em_one m.emit; have := a2 34; have := a2 92; have := a2 47; have := a2 98; have := a2 102; have := a2 110; have := a2 114; have := a2 116; omega, h2, (hB.trans hb1).trans hb2⟩
                    case measure => simp [intOf]; omega
            · as_aux_lemma =>
                have hres := hS.out.fail (st_cut (by omega) H92.out (by omega))
                have HRES : Hid _ := hres
                clear hres
                go_wp2_with fail
                go_ret2
                exact .inr ⟨HRES.out, q, O, rfl, hr, hB⟩
          · as_aux_lemma =>
              have hres := hS.out.go (st_plain (by omega) HY.out (by simpa using e34) (by omega) (by simpa using e92))
              have HRES : Hid _ := hres
              clear hres
              go_wp2_with (go_at_call 31; refine (put_any m O ln dp y _ hr ?_).mono ?_; (rw [List.length_append]; have := em_one m.emit y; have := hS.out.1; omega); rintro x w1 ⟨rfl, h1, hb1⟩)
              go_roundw
              case rel => exact ⟨q + 1, _, _, by go_num, by omega, HRES.out, show _ = _ by rw [hO.out, List.append_assoc, ← em_append]; rfl, by rw [List.length_append]; have := em_one m.emit y; have := hS.out.1; omega, h1, hB.trans hb1⟩
              case measure => simp [intOf]; omega
      · as_aux_lemma =>
          have hres := hS.out.fin (st_end (by omega) (by rw [HY.out]; simpa using e34))
          have HRES : Hid _ := hres
          clear hres
          go_wp2_with (go_at_call 31; refine (put_any m O ln dp 34 _ hr ?_).mono ?_; (rw [List.length_append]; have := em_one m.emit 34; have := hS.out.1; omega); rintro x w1 ⟨rfl, h1, hb1⟩)
          go_ret2
          refine .inl ⟨_, HRES.out, two_int_bool (by have := hS.out.1; simp; omega), ?_, hB.trans hb1⟩
          simp only
          rw [show (34 :: (X ++ [34]) : List Int) = (34 :: X) ++ [34] by rfl, em_append, ← List.append_assoc, ← hO.out]
          exact h1
    · as_aux_lemma =>
        have hres := hS.out.fail (sstep_out (by omega))
        have HRES : Hid _ := hres
        clear hres
        go_wp2_with fail
        go_ret2
        exact .inr ⟨HRES.out, q, O, rfl, hr, hB⟩
end Go.Proofs.Qxb6603067a
