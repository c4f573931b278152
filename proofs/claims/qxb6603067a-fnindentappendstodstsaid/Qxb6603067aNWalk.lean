/-
  THE WALKS of the layout model's word (43) and number (44).
-/
import Derived.Test.Qxb6603067aMWalk
namespace Go.Proofs.Qxb6603067a
open Go.RowKit
open Plain

/-- what a reader of a piece answers -/
def PcPost (m : Mod) (out : List Int) (ln dp : Nat) (w : World) (p : Nat) (P : Option Piece) (x : Ending) (w' : World) : Prop :=
  (∃ r, P = some r ∧ x = .returned (.tuple #[.int .i64 (p + r.n : Nat), .bool true]) ∧ MI w' m (out ++ em m.emit r.out) ln dp ∧ Below m.M w w') ∨
  (P = none ∧ ∃ (q : Nat) (O : List Int), x = .returned (.tuple #[.int .i64 q, .bool false]) ∧ MI w' m O ln dp ∧ Below m.M w w')

theorem ret2 {x y : Int} {b : Bool} (h : x = y) : Ending.returned (.tuple #[.int .i64 x, .bool b]) = .returned (.tuple #[.int .i64 y, .bool b]) := by rw [h]

theorem MI.bytes {w : World} {m : Mod} {out : List Int} {ln dp : Nat} (h : MI w m out ln dp) : Bytes w m.M m.a m.len m.zs := by
  obtain ⟨_, _, _, _, _, _, _, _, _, _, _, _, _, hby, _⟩ := h; exact hby
theorem MI.c0 {w : World} {m : Mod} {out : List Int} {ln dp : Nat} (h : MI w m out ln dp) : w.cell? ⟨m.M, 0, none⟩ = some (.slice m.a m.len m.cap) := by
  obtain ⟨_, _, c0, _⟩ := h; exact c0
theorem MI.drewN {w : World} {m : Mod} {out : List Int} {ln dp : Nat} (h : MI w m out ln dp) (n : Nat) : MI (w.drewN n) m out ln dp := h

theorem MI.open_ {w : World} {m : Mod} {out : List Int} {ln dp : Nat} (h : MI w m out ln dp) (hl : 0 < m.len) :
    ∃ b off, m.a = some ⟨b, off, none⟩ ∧ b < m.M ∧ w.cell? ⟨m.M, 0, none⟩ = some (.slice (some ⟨b, off, none⟩) m.len m.cap) ∧ Hid (∀ i, i < m.len → w.cell? ⟨b, off + i, none⟩ = some (.int .u8 (m.zs.getD i 0))) := by
  have hby := h.bytes
  have c0 := h.c0
  rcases hby.2 with h0 | ⟨b, off, ha, hb, hc⟩
  · omega
  · rw [ha] at c0
    exact ⟨b, off, ha, hb, c0, hc⟩

theorem word_no {c w : List Int} {p k : Nat} (hk : k < w.length) (hne : c.getD (p + k) 0 ≠ w.getD k 0) : word c p w = none := by
  unfold word
  split
  · rfl
  · rename_i h
    rw [if_neg]
    intro e
    apply hne
    rw [← e]
    simp [List.getD_eq_getElem?_getD, hk]
theorem word_yes {c w : List Int} {p : Nat} (hl : p + w.length ≤ c.length) (hall : ∀ k, k < w.length → c.getD (p + k) 0 = w.getD k 0) : word c p w = some ⟨w.length, w⟩ := by
  unfold word
  rw [if_neg (by omega), if_pos]
  apply List.ext_getElem
  · simp; omega
  · intro k h1 h2
    have := hall k h2
    simp [List.getD_eq_getElem?_getD, h2, show p + k < c.length by omega] at this
    simpa using this

set_option maxRecDepth 10000 in
set_option maxHeartbeats 400000 in
theorem word_any (m : Mod) (out : List Int) (ln dp p : Nat) (t : ByteArray) (w : World) (h : MI w m out ln dp) (hlen : m.len ≤ 1048576) (hp : p < m.len) (ht : t.size ≤ 10) (hol : out.length + m.len + 20 ≤ 140737488355328) :
    Calls Try.prog 43 #[.pointer (some ⟨m.M, 0, none⟩), .int .i64 p, .string t] w (PcPost m out ln dp w p (word m.zs p (sbytes t))) := by
  have hzl := h.bytes.1
  obtain ⟨b, off, ha, hbW, c0, HC⟩ := h.open_ (by omega)
  by_cases hshort : m.len < p + t.size
  · have HN : Hid (word m.zs p (sbytes t) = none) := show _ = _ by unfold word; rw [if_pos (by rw [sbytes_length]; omega)]
    go_enter Try.func43, Try.ntmps43
    go_wp2
    go_ret2
    exact .inr ⟨HN.out, p, out, rfl, h, Below.refl _ _⟩
  · go_enter Try.func43, Try.ntmps43
    go_wp2
    go_loopw [8] (fun i wr => ∃ k n : Nat, k ≤ t.size ∧ i = .int .i64 k ∧ wr = w.drewN n ∧ Hid (∀ i, i < k → m.zs.getD (p + i) 0 = (sbytes t).getD i 0)) (fun i _ => t.size - (intOf i).toNat)
    case atStart => exact ⟨0, 0, Nat.zero_le _, rfl, rfl, fun i hi => by omega⟩
    case round =>
      obtain ⟨k, n, hk, rfl, rfl, hall⟩ := hrel
      by_cases hlt : k < t.size
      · have hcc := HC.out (p + k) (by omega)
        obtain ⟨x, hx⟩ : ∃ x, m.zs.getD (p + k) 0 = x := ⟨_, rfl⟩
        rw [hx] at hcc
        have HX : Hid (m.zs.getD (p + k) 0 = x) := hx
        clear hx
        have hs : (sbytes t).getD k 0 = (t[k].toNat : Int) := by
          have hl : k < (sbytes t).length := by rw [sbytes_length]; exact hlt
          simp [List.getD_eq_getElem?_getD, hl]
          simp [sbytes]
          rfl
        have HS : Hid _ := hs
        clear hs
        cases hne : (x != (t[k].toNat : Int))
        · have heq : x = (t[k].toNat : Int) := by simpa using hne
          have HE : Hid _ := heq
          clear heq
          go_wp2
          go_quiet (fail)
          go_wp2
          go_roundw
          case rel => exact ⟨k + 1, _, by omega, by go_num, rfl, fun i hi => by
            by_cases hik : i < k
            · exact hall.out i hik
            · obtain rfl : i = k := by omega
              rw [HX.out, HS.out, HE.out]⟩
          case measure => simp [intOf]; omega
        · have HN : Hid (word m.zs p (sbytes t) = none) := word_no (k := k) (by rw [sbytes_length]; exact hlt) (by rw [HX.out, HS.out]; simpa using hne)
          go_wp2
          go_quiet (fail)
          go_wp2
          go_ret2
          exact .inr ⟨HN.out, p, out, rfl, (h.drewN _).drewN _, below_drewN (below_drewN (Below.refl _ _) _) _⟩
      · have HY : Hid (word m.zs p (sbytes t) = some ⟨(sbytes t).length, sbytes t⟩) := word_yes (by rw [sbytes_length]; omega) (fun i hi => hall.out i (by rw [sbytes_length] at hi; omega))
        go_wp2_with (go_at_call 29; refine (putString_any m out ln dp t _ (h.drewN n) (by omega) ?_).mono ?_; (rw [List.length_append]; unfold em; split; (rw [sbytes_length]; omega); (simp; omega)); rintro x w2 ⟨rfl, h2, hb2⟩)
        go_ret2
        exact .inl ⟨_, HY.out, ret2 (by simp [sbytes_length]), h2, (below_drewN (Below.refl _ _) n).trans hb2⟩
end Go.Proofs.Qxb6603067a
