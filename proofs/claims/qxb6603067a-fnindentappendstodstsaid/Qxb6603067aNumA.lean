/-
  THE WALK of the layout model's number (44), cut into declarations: the last part (what was read is put out).
-/
import Derived.Test.Qxb6603067aNWalk
import Derived.Test.Qxb6603067aJLaw
import Derived.Deep.Light
namespace Go.Proofs.Qxb6603067a
open Go.RowKit
open Plain

theorem digit_any (b : Int) (w : World) : Calls Try.prog 24 #[.int .u8 b] w fun x w' => x = .returned (.bool (dg b)) ∧ w = w' := by
  by_cases h1 : 48 ≤ b
  · by_cases h2 : b ≤ 57
    · go_enter Try.func24, Try.ntmps24
      go_wp2
      go_ret
      exact ⟨by simp [dg, h1, h2], rfl⟩
    · go_enter Try.func24, Try.ntmps24
      go_wp2
      go_ret
      exact ⟨by simp [dg, h2], rfl⟩
  · go_enter Try.func24, Try.ntmps24
    go_wp2
    go_ret
    exact ⟨by have : dg b = false := by cases h : dg b with | false => rfl | true => exact absurd ((dg_iff b).1 h).1 (by omega)
              rw [this]; rfl, rfl⟩

theorem digs_dg (l : List Int) : ∀ j, j < (digs l).length → dg (l.getD j 0) = true := by
  induction l with
  | nil => intro j hj; simp [digs] at hj
  | cons x xs ih =>
    intro j hj
    cases hx : dg x
    · rw [digs_no hx] at hj; simp at hj
    · rw [digs_yes hx] at hj
      cases j with
      | zero => simpa using hx
      | succ j => simpa using ih j (by simpa using hj)
theorem digs_stop (l : List Int) : (digs l).length < l.length → dg (l.getD (digs l).length 0) = false := by
  induction l with
  | nil => intro h; simp at h
  | cons x xs ih =>
    intro h
    cases hx : dg x
    · rw [digs_no hx]; simpa using hx
    · rw [digs_yes hx] at h ⊢
      simpa using ih (by simpa using h)
theorem dend_dg {c : List Int} {j k : Nat} (h1 : j ≤ k) (h2 : k < dend c j) : dg (c.getD k 0) = true := by
  have := digs_dg (c.drop j) (k - j) (by unfold dend at h2; omega)
  rwa [show (c.drop j).getD (k - j) 0 = c.getD k 0 by simp [List.getD_eq_getElem?_getD]; rw [show j + (k - j) = k by omega]] at this
theorem dend_stop {c : List Int} {j : Nat} (h : dend c j < c.length) : dg (c.getD (dend c j) 0) = false := by
  have := digs_stop (c.drop j) (by unfold dend at h; simp; omega)
  rwa [show (c.drop j).getD (digs (c.drop j)).length 0 = c.getD (dend c j) 0 by simp [List.getD_eq_getElem?_getD, dend]] at this
theorem dend_ge (c : List Int) (j : Nat) : j ≤ dend c j := by unfold dend; omega
theorem dend_le {c : List Int} {j : Nat} (h : j ≤ c.length) : dend c j ≤ c.length := by
  have : (digs (c.drop j)).length ≤ (c.drop j).length := List.Sublist.length_le (List.takeWhile_sublist _)
  unfold dend; simp at this; omega


/-- what follows the first n statements -/
def dropS : Nat → Code → Code
  | 0, c => c
  | n + 1, .seq _ b => dropS n b
  | _ + 1, c => c
noncomputable def tail44 (n : Nat) : Code := dropS n (Try.f44.body.getD .skip)

theorem em_one' (e : Bool) (b : Int) : (em e [b]).length ≤ 1 := by cases e <;> simp [em]

theorem em_take_succ {c : List Int} {e : Bool} {p k : Nat} {O out : List Int} (hk : p ≤ k) (hl : k < c.length) (h : O = out ++ em e ((c.drop p).take (k - p))) : O ++ em e [c.getD k 0] = out ++ em e ((c.drop p).take (k + 1 - p)) := by
  rw [h, List.append_assoc, ← em_append]
  congr 2
  rw [show k + 1 - p = (k - p) + 1 by omega, List.take_add_one]
  congr 1
  rw [List.getElem?_drop, show p + (k - p) = k by omega, List.getD_eq_getElem?_getD, List.getElem?_eq_getElem hl]
  rfl

set_option maxRecDepth 100000 in
set_option maxHeartbeats 4000000 in
theorem num_t7 (m : Mod) (out : List Int) (ln dp p q : Nat) (w w0 : World) (h : MI w m out ln dp) (hb : Below m.M w0 w) (hlen : m.len ≤ 1048576) (hp : p < m.len) (hq : p ≤ q) (hq2 : q ≤ m.len) (hol : out.length + m.len + 20 ≤ 140737488355328) (hn : numEnd m.zs p = some q)
    {u2 u3 u4 u5 u7 u8 u9 u10 u11 u12 u13 u14 u15 u16 u17 u18 u19 u20 u21 u22 u23 u24 u25 u26 u27 u28 u29 u30 u31 u32 u33 u34 u35 u36 u37 u38 u39 u40 u41 u42 u43 u44 u45 u46 u47 u48 u49 u50 u51 u52 u53 u54 u55 u56 u57 u58 u59 u60 u61 u62 u63 u64 u65 u66 u67 u68 u69 u70 u71 u72 u73 u74 u75 u76 u77 u78 u79 u80 u81 u82 u83 u84 u85 u86 u87 u88 u89 u90 u91 u92 u93 u94 u95 u96 u97 u98 u99 u100 u101 u102 u103 u104 u105 u106 u107 u108 u109 u110 u111 u112 u113 u114 u115 u116 u117 u118 u119 u120 u121 u122 u123 u124 u125 u126 u127 u128 u129 u130 u131 u132 u133 u134 u135 u136 u137 u138 u139 u140 u141 u142 u143 u144 u145 u146 u147 u148 u149 u150 u151 u152 u153 u154 u155 u156 u157 u158 u159 u160 u161 u162 u163 u164 u165 u166 u167 u168 u169 u170 u171 u172 u173 u174 u175 u176 u177 u178 u179 u180 u181 u182 u183 u184 u185 u186 u187 u188 u189 u190 u191 u192 u193 u194 u195 u196 u197 u198 u199 u200 u201 u202 u203 u204 u205 u206 u207 u208 u209 u210 u211 u212 u213 u214 u215 u216 u217 u218 u219 u220 u221 u222 u223 u224 u225 u226 u227 u228 u229 u230 u231 u232 u233 u234 u235 : Value} :
    Code.wp Try.prog (tail44 7) (bodyPost Try.prog Try.f44 (PcPost m out ln dp w0 p (number m.zs p))) ⟨#[.pointer (some ⟨m.M, 0, none⟩), .int .i64 q, u2, u3, u4, u5, .int .i64 p, u7, u8, u9, u10, u11, u12, u13, u14, u15, u16, u17, u18, u19, u20, u21, u22, u23, u24, u25, u26, u27, u28, u29, u30, u31, u32, u33, u34, u35, u36, u37, u38, u39, u40, u41, u42, u43, u44, u45, u46, u47, u48, u49, u50, u51, u52, u53, u54, u55, u56, u57, u58, u59, u60, u61, u62, u63, u64, u65, u66, u67, u68, u69, u70, u71, u72, u73, u74, u75, u76, u77, u78, u79, u80, u81, u82, u83, u84, u85, u86, u87, u88, u89, u90, u91, u92, u93, u94, u95, u96, u97, u98, u99, u100, u101, u102, u103, u104, u105, u106, u107, u108, u109, u110, u111, u112, u113, u114, u115, u116, u117, u118, u119, u120, u121, u122, u123, u124, u125, u126, u127, u128, u129, u130, u131, u132, u133, u134, u135, u136, u137, u138, u139, u140, u141, u142, u143, u144, u145, u146, u147, u148, u149, u150, u151, u152, u153, u154, u155, u156, u157, u158, u159, u160, u161, u162, u163, u164, u165, u166, u167, u168, u169, u170, u171, u172, u173, u174, u175, u176, u177, u178, u179, u180, u181, u182, u183, u184, u185, u186, u187, u188, u189, u190, u191, u192, u193, u194, u195, u196, u197, u198, u199, u200, u201, u202, u203, u204, u205, u206, u207, u208, u209, u210, u211, u212, u213, u214, u215, u216, u217, u218, u219, u220, u221, u222, u223, u224, u225, u226, u227, u228, u229, u230, u231, u232, u233, u234, u235], []⟩ w := by
  have HN : Hid (number m.zs p = some ⟨q - p, (m.zs.drop p).take (q - p)⟩) := by
    show _ = _
    unfold number
    rw [hn]
    rfl
  have hzl : Hid (m.zs.length = m.len) := h.bytes.1
  clear hn
  conv => arg 2; whnf
  go_wp2
  go_loopw [7] (fun i wr => ∃ (k : Nat) (O : List Int), i = .int .i64 k ∧ p ≤ k ∧ k ≤ q ∧ Hid (O = out ++ em m.emit ((m.zs.drop p).take (k - p))) ∧ MI wr m O ln dp ∧ Below m.M w0 wr) (fun i _ => q - (intOf i).toNat)
  case atStart => exact ⟨p, out, rfl, Nat.le_refl _, hq, by show _ = _; simp [em_nil], h, hb⟩
  case round =>
    obtain ⟨k, O, rfl, hk1, hk2, hO, hr, hbr⟩ := hrel
    clear h hb
    by_cases hlt : k < q
    · obtain ⟨b, off, ha, hbW, c0, HC⟩ := hr.open_ (by omega)
      have hcc := HC.out k (by omega)
      obtain ⟨x, hx⟩ : ∃ x, m.zs.getD k 0 = x := ⟨_, rfl⟩
      rw [hx] at hcc
      have HX : Hid _ := hx
      clear hx
      have hsz : Hid ((O ++ em m.emit [x]).length ≤ 140737488355328) := by
        show _ ≤ _
        rw [hO.out]
        have h1 := em_one' m.emit x
        have h2 : (em m.emit ((m.zs.drop p).take (k - p))).length ≤ k - p := by
          cases m.emit
          · simp [em]
          · simp [em]; omega
        simp only [List.length_append]
        omega
      have hO2 : Hid (O ++ em m.emit [x] = out ++ em m.emit ((m.zs.drop p).take (k + 1 - p))) := by
        show _ = _
        rw [← HX.out]
        exact em_take_succ hk1 (by rw [hzl.out]; omega) hO.out
      go_wp2_with (go_at_call 31; refine (put_any m O ln dp x _ hr hsz.out).mono ?_; rintro x5 w5 ⟨rfl, h5, hb5⟩)
      go_roundw
      case rel => exact ⟨k + 1, _, by go_num, by (go_light; omega), by (go_light; omega), hO2, h5, hbr.trans hb5⟩
      case measure => simp [intOf]; omega
    · obtain rfl : k = q := by omega
      go_wp2
      go_ret2
      refine .inl ⟨_, HN.out, ret2 (by simp only; omega), ?_, hbr⟩
      rw [← hO.out]
      exact hr
end Go.Proofs.Qxb6603067a
