/-
  THE WALK of the law FnIndentMatchesLayoutModel (3).
-/
import Derived.Test.Qxb6603067aLaws
import Derived.Deep.RegionWith
namespace Go.Proofs.Qxb6603067a
open Go.RowKit
open Plain

/-- where all lies behind the append that makes 'want' -/
theorem mid3 {w w2 w3 w4 w5 w6 w7 : World} {cs zs0 : List Int} {a4 a5 : Option Addr} {n0 c4 c5 n : Nat} (hr2 : Row w2 w.heap.size cs) (hcs : cs.length = n) (hb2 : Below w.heap.size w w2) (hb3 : Below w2.heap.size w2 w3) (hcl4 : Cl w3 w4 a4 n0 c4 zs0) (hb4 : Below w3.heap.size w3 w4)
    (hcl5 : Cl w4 w5 a5 n0 c5 zs0) (hb5 : Below w4.heap.size w4 w5) (hb6 : Below w5.heap.size w5 w6) (hg7 : w6.grownBy w7 (Value.slice a5 n0 c5).ownBlock) :
    Full w7 (.slice a4 n0 c4) zs0 ∧ BytesX w7 w7.heap.size none (some ⟨w.heap.size, 0, none⟩) n cs ∧ Below w.heap.size w w7 := by
  have s2 := hr2.lt
  have s3 := hb3.size
  have s4 := hb4.size
  have s5 := hb5.size
  have s6 := hb6.size
  have s7 := hg7.size
  have hne : ∀ k, k < w4.heap.size → some k ≠ (Value.slice a5 n0 c5).ownBlock := fun k hk e => by
    have := (hcl5.block e.symm).1
    omega
  have hk7 : ∀ k, k < w4.heap.size → w7.heap[k]? = w4.heap[k]? := fun k hk =>
    ((hg7.block k (by omega) (hne k hk)).trans (hb6.block k (by omega))).trans (hb5.block k (by omega))
  refine ⟨hcl4.full.keep (fun g e => hk7 g (hcl4.block e).2), ?_, ?_⟩
  · have hr7 : Row w7 w.heap.size cs := ((hk7 _ (by omega)).trans (hb4.block _ (by omega))).trans ((hb3.block _ (by omega)).trans hr2)
    exact hr7.bytesX hcs (by omega)
  · have h67 : Below w.heap.size w6 w7 := grown_below hg7 (by omega) (fun k e => by
      have := (hcl5.block e).1
      omega)
    exact ((((hb2.trans (hb3.mono (by omega))).trans (hb4.mono (by omega))).trans (hb5.mono (by omega))).trans (hb6.mono (by omega))).trans h67

theorem equal_two (a b : Option Addr) (n1 n2 c1 c2 B : Nat) (xs : List Int) (w : World) (h12 : n1 = n2) (hn : n1 ≤ 140737488355328) (ha : Bytes w B a n1 xs) (hb : Bytes w B b n2 xs) :
    Calls Try.prog 15 #[.slice a n1 c1, .slice b n2 c2] w fun x w' => x = .returned (.bool true) ∧ ∃ q, w' = w.drewN q := by
  subst h12
  exact equal_same a b n1 c1 c2 B xs w hn ha hb

theorem Own.bytes2 {w : World} {base : Nat} {a : Option Addr} {n c : Nat} {l : List Int} (h : Own w base (.slice a n c) l) : n = l.length ∧ (a = none → c = 0) ∧ Bytes w w.heap.size a n l := by
  obtain ⟨a', c', e, h1, h2⟩ := h.bytes (Nat.le_refl _)
  simp only [Value.slice.injEq] at e
  obtain ⟨rfl, rfl, rfl⟩ := e
  exact ⟨rfl, h1, h2⟩

theorem row_later3 {w w2 w3 w4 w5 : World} {cs : List Int} (hr2 : Row w2 w.heap.size cs) (hb3 : Below w2.heap.size w2 w3) (hb4 : Below w3.heap.size w3 w4) (hb5 : Below w4.heap.size w4 w5) : Row w5 w.heap.size cs := by
  have s2 := hr2.lt
  have s3 := hb3.size
  have s4 := hb4.size
  exact ((hr2.later hb3 s2).later hb4 (by omega)).later hb5 (by omega)

theorem bel3 {w w2 w3 : World} (h1 : Below w.heap.size w w2) (h2 : Below w2.heap.size w2 w3) : Below w.heap.size w w3 := h1.trans (h2.mono h1.size)

set_option maxRecDepth 10000 in
set_option maxHeartbeats 4000000 in
theorem law3_yes (a0 : Option Addr) (n0 c0 : Nat) (zs0 : List Int) (ad : Addr) (n c1 : Nat) (cs : List Int) (pre ind : ByteArray) (w : World) (f : Nat) (r : MR) (hin : In w a0 n0 c0 zs0) (hby : Bytes w w.heap.size (some ad) n cs) (hu : ∀ z ∈ cs, 0 ≤ z ∧ z ≤ 255)
    (hn0 : n0 ≤ 1048576) (hn : n ≤ 1048576) (hp : pre.size ≤ 1048576) (hi : ind.size ≤ 1048576) (hmj : mj cs (sbytes pre) (sbytes ind) f none 0 0 = some (some r)) (hrp : r.p = n) :
    Calls Try.prog 3 #[.slice a0 n0 c0, .slice (some ad) n c1, .string pre, .string ind] w fun x w' => x = .returned (.bool true) ∧ Below w.heap.size w w' := by
  have hnil := run_neq_slice_nil_any (P := Try.prog) w 22 5 (some ad) n c1 0 0 Try.underlying22
  simp only [Option.isNone_some, Bool.not_false] at hnil
  have hcl : Hid (cs.length = n) := hby.1
  have HIN : Hid (In w a0 n0 c0 zs0) := hin
  have HBY : Hid (Bytes w w.heap.size (some ad) n cs) := hby
  have HU : Hid _ := hu
  have HMJ : Hid _ := hmj
  have HRP : Hid _ := hrp
  have hpos : Hid (0 < n) := by
    show 0 < n
    have := (mj_head hmj).1
    rw [hcl.out] at this
    exact this
  have HLEN : Hid (r.ln * (1 + pre.size + r.dp * ind.size) ≤ 16777216 → r.out.length ≤ 20000000) := fun h => mj_len hmj (by rw [sbytes_length, sbytes_length]; exact h) (by rw [hcl.out]; exact hn)
  obtain ⟨T, hT⟩ : ∃ T, T = zs0 ++ sbytes pre ++ r.out := ⟨_, rfl⟩
  have HRT : Hid (RunTo cs (sbytes pre) (sbytes ind) 0 0 (zs0 ++ sbytes pre) T) := by rw [hT]; exact runTo_mj hmj (by rw [hcl.out]; exact hrp) _
  obtain ⟨L, hL⟩ : ∃ L, L = sbytes pre ++ r.out ++ [10] := ⟨_, rfl⟩
  have HTL : Hid (T ++ [10] = zs0 ++ L) := by show _ = _; rw [hT, hL]; simp [List.append_assoc]
  have HLL : Hid (L.length = pre.size + r.out.length + 1) := by show _ = _; rw [hL]; simp [sbytes_length]; omega
  have HTT : Hid (T.length = zs0.length + pre.size + r.out.length) := by show _ = _; rw [hT]; simp [sbytes_length]; omega
  have HEL : Hid (em true (sbytes pre ++ r.out ++ [10]) = L) := by show _ = _; rw [hL]; rfl
  clear hin hby hu hmj hrp hT hL
  go_enter Try.func3, Try.ntmps3
  go_wp2_with (first
    | (go_at_call 15; refine (equal_two a8 a7 _ _ _ _ w8.heap.size (T ++ [10]) _ (by have h1 := congrArg List.length HTL.out; simp only [List.length_append, List.length_cons, List.length_nil] at h1; exact h1) (by have := HLEN.out (HF.out (by trivial)); have := HTT.out; have := HZ0.out; omega) hB8 hB7).mono ?_; rintro x9 w9 ⟨rfl, q9, hw9⟩; subst w9)
    | (go_at_call 14; refine (indent_any (.slice a4 n0 c4) zs0 w.heap.size 0 n n cs pre ind _ T hm7.1 hm7.2.1 HU.out hpos.out hn (Nat.le_refl _) (by omega) (by rw [HZ0.out]; exact hn0) hp hi HRT.out (by have := HLEN.out (HF.out (by trivial)); have := HTT.out; have := HZ0.out; omega)).mono ?_; rintro x8 w8 ⟨a8, c8, rfl, ho8, hk8⟩; have hB8 := (Own.bytes2 ho8).2.2; have hB7 : Bytes w8 w8.heap.size a7 (zs0.length + L.length) (T ++ [10]) := by rw [HTL.out]; exact (Own.bytes2 (Own.later ho7 hk8.below (Nat.le_refl _))).2.2)
    | (at_builtin; refine wpList_app_bytes rfl _ _ rfl w4.heap.size _ zs0 rfl (Own.later (hcl5.own hn0) hb6 (Nat.le_refl _)) _ L.length co6 L rfl _ (Own.bytes2 ho6).2.2 (Own.bytes2 ho6).2.1 (by have := HLEN.out (HF.out (by trivial)); have := HLL.out; have := HZ0.out; omega) (by have := hb5.size; have := hb6.size; omega) ?_; intro a7 c7 w7 ho7 hg7 hl7; have hm7 := mid3 hr2 hcl.out (hb1.trans hb2) hb3 hcl4 hb4 hcl5 hb5 hb6 hg7)
    | (go_at_call_of 11 (Value.bool true); refine (layOut_yes _ n n cs pre ind true f r _ ((row_later3 hr2 hb3 hb4 hb5).whole hcl.out) hn hp hi HMJ.out HRP.out (fun _ => by have := HLEN.out (HF.out (by trivial)); omega)).mono ?_; rintro x6 w6 ⟨ao6, co6, hx6, ho6, hb6⟩; rw [HEL.out] at hx6 ho6; subst hx6)
    | (go_at_call_of 13 a4; refine (clone_any a4 n0 c4 zs0 _ hn0 (Cl.in hcl4)).mono ?_; rintro x5 w5 ⟨a5, c5, rfl, hcl5, hb5⟩)
    | (go_at_call_of 13 a0; refine (clone_any a0 n0 c0 zs0 _ hn0 (In.later (w := w) HIN.out (bel3 (hb1.trans hb2) hb3))).mono ?_; rintro x4 w4 ⟨a4, c4, rfl, hcl4, hb4⟩; have HZ0 : Hid _ := hcl4.len)
    | (go_at_call 12; refine (fits_any pre ind r.ln r.dp _ hp hi).mono ?_; rintro x4 wz ⟨bf, rfl, hw4, HF⟩; subst wz; cases bf)
    | (go_at_call_of 11 (Value.bool false); refine (layOut_yes _ n n cs pre ind false f r _ (hr2.whole hcl.out) hn hp hi HMJ.out HRP.out (fun h => absurd h (by decide))).mono ?_; rintro x3 w3 ⟨ao3, co3, rfl, ho3, hb3⟩)
    | (go_at_call 10; refine (bytes10 _ _ _ _ _ _ _ _ _ (by unfold maxLen; omega) (by unfold maxLen; omega) (by unfold maxLen; omega) (by unfold maxLen; omega)).mono ?_; rintro x0 wz ⟨bz, rfl, hw0⟩; subst wz; cases bz)
    | (at_make; refine wpList_make_bytes rfl _ _ rfl _ _ _ _ n rfl rfl (by omega) (by omega) (by omega) ?_; intro w1 hs1 hr1 hb1)
    | (refine wpList_copy_bytes rfl (.tmp 43) (.tmp 44) rfl w.heap.size n _ _ _ _ cs rfl rfl hr1 (by simp) w.heap.size (Bytes.later HBY.out hb1 (Nat.le_refl _)) ?_; intro w2 hr2 hb2))
  · go_ret
    exact ⟨rfl, Below.refl _ _⟩
  · go_ret
    exact ⟨rfl, bel3 (hb1.trans hb2) hb3⟩
  · go_ret
    refine ⟨rfl, below_drewN ?_ _⟩
    exact hm7.2.2.trans (hk8.below.mono hm7.2.2.size)

set_option maxRecDepth 10000 in
set_option maxHeartbeats 1000000 in
theorem law3_no (a0 : Option Addr) (n0 c0 : Nat) (ad : Addr) (n c1 : Nat) (cs : List Int) (pre ind : ByteArray) (w : World) (f : Nat) (P : Option MR) (hby : Bytes w w.heap.size (some ad) n cs)
    (hn0 : n0 ≤ 1048576) (hn : n ≤ 1048576) (hp : pre.size ≤ 1048576) (hi : ind.size ≤ 1048576) (hmj : mj cs (sbytes pre) (sbytes ind) f none 0 0 = some P) (hno : ∀ r, P = some r → r.p ≠ n) :
    Calls Try.prog 3 #[.slice a0 n0 c0, .slice (some ad) n c1, .string pre, .string ind] w fun x w' => x = .returned (.bool true) ∧ Below w.heap.size w w' := by
  have hnil := run_neq_slice_nil_any (P := Try.prog) w 22 5 (some ad) n c1 0 0 Try.underlying22
  simp only [Option.isNone_some, Bool.not_false] at hnil
  have hcl : Hid (cs.length = n) := hby.1
  have HBY : Hid (Bytes w w.heap.size (some ad) n cs) := hby
  have HMJ : Hid _ := hmj
  have HNO : Hid (∀ r, P = some r → r.p ≠ n) := hno
  clear hby hmj hno
  go_enter Try.func3, Try.ntmps3
  go_wp2_with (first
    | (go_at_call 11; refine (layOut_no _ n n cs pre ind f P _ (hr2.whole hcl.out) hn hp hi HMJ.out HNO.out).mono ?_; rintro x3 w3 ⟨rfl, hb3⟩)
    | (go_at_call 10; refine (bytes10 _ _ _ _ _ _ _ _ _ (by unfold maxLen; omega) (by unfold maxLen; omega) (by unfold maxLen; omega) (by unfold maxLen; omega)).mono ?_; rintro x0 wz ⟨bz, rfl, hw0⟩; subst wz; cases bz)
    | (at_make; refine wpList_make_bytes rfl _ _ rfl _ _ _ _ n rfl rfl (by omega) (by omega) (by omega) ?_; intro w1 hs1 hr1 hb1)
    | (refine wpList_copy_bytes rfl (.tmp 43) (.tmp 44) rfl w.heap.size n _ _ _ _ cs rfl rfl hr1 (by simp) w.heap.size (Bytes.later HBY.out hb1 (Nat.le_refl _)) ?_; intro w2 hr2 hb2))
  · go_ret
    exact ⟨rfl, Below.refl _ _⟩
  · go_ret
    exact ⟨rfl, bel3 (hb1.trans hb2) hb3⟩

set_option maxRecDepth 10000 in
set_option maxHeartbeats 1000000 in
theorem law3_nil (a0 : Option Addr) (n0 c0 : Nat) (pre ind : ByteArray) (w : World) (hn0 : n0 ≤ 1048576) (hp : pre.size ≤ 1048576) (hi : ind.size ≤ 1048576) :
    Calls Try.prog 3 #[.slice a0 n0 c0, .slice none 0 0, .string pre, .string ind] w fun x w' => x = .returned (.bool true) ∧ Below w.heap.size w w' := by
  have hnil := run_neq_slice_nil_any (P := Try.prog) w 22 5 none 0 0 0 0 Try.underlying22
  simp only [Option.isNone_none, Bool.not_true] at hnil
  have HMJ : Hid (mj [] (sbytes pre) (sbytes ind) 1 none 0 0 = some none) := by show _ = _; simp [mj]
  go_enter Try.func3, Try.ntmps3
  go_wp2_with (first
    | (go_at_call 11; refine (layOut_no none 0 0 [] pre ind 1 none _ (Bytes.empty _ _ _) (by omega) hp hi HMJ.out (fun r hr => by cases hr)).mono ?_; rintro x3 w3 ⟨rfl, hb3⟩)
    | (go_at_call 10; refine (bytes10 _ _ _ _ _ _ _ _ _ (by unfold maxLen; omega) (by unfold maxLen; omega) (by unfold maxLen; omega) (by unfold maxLen; omega)).mono ?_; rintro x0 wz ⟨bz, rfl, hw0⟩; subst wz; cases bz))
  · go_ret
    exact ⟨rfl, Below.refl _ _⟩
  · go_ret
    exact ⟨rfl, hb3⟩

set_option maxRecDepth 10000 in
theorem law3_long (a0 : Option Addr) (n0 c0 : Nat) (a1 : Option Addr) (n c1 : Nat) (pre ind : ByteArray) (w : World) (m0 : n0 ≤ maxLen) (m1 : n ≤ maxLen) (m2 : pre.size ≤ maxLen) (m3 : ind.size ≤ maxLen)
    (hl : ¬ (n0 ≤ 1048576 ∧ n ≤ 1048576 ∧ pre.size ≤ 1048576 ∧ ind.size ≤ 1048576)) :
    Calls Try.prog 3 #[.slice a0 n0 c0, .slice a1 n c1, .string pre, .string ind] w fun x w' => x = .returned (.bool true) ∧ Below w.heap.size w w' := by
  have M0 : Hid (n0 ≤ maxLen) := m0
  have M1 : Hid (n ≤ maxLen) := m1
  have M2 : Hid (pre.size ≤ maxLen) := m2
  have M3 : Hid (ind.size ≤ maxLen) := m3
  unfold maxLen at m0 m1 m2 m3
  by_cases h0 : n0 ≤ 1048576
  · by_cases h1 : n ≤ 1048576
    · by_cases h2 : pre.size ≤ 1048576
      · have h3 : ¬ ind.size ≤ 1048576 := fun h3 => hl ⟨h0, h1, h2, h3⟩
        clear hl
        go_enter Try.func3, Try.ntmps3
        go_wp2_with (go_at_call 10; refine (bytes10 _ _ _ _ _ _ _ _ _ M0.out M1.out M2.out M3.out).mono ?_; rintro x0 wz ⟨bz, rfl, hw0⟩; subst wz; cases bz)
        all_goals
          go_ret
          exact ⟨rfl, Below.refl _ _⟩
      · clear hl
        go_enter Try.func3, Try.ntmps3
        go_wp2_with (go_at_call 10; refine (bytes10 _ _ _ _ _ _ _ _ _ M0.out M1.out M2.out M3.out).mono ?_; rintro x0 wz ⟨bz, rfl, hw0⟩; subst wz; cases bz)
        all_goals
          go_ret
          exact ⟨rfl, Below.refl _ _⟩
    · clear hl
      go_enter Try.func3, Try.ntmps3
      go_wp2_with (go_at_call 10; refine (bytes10 _ _ _ _ _ _ _ _ _ M0.out M1.out M2.out M3.out).mono ?_; rintro x0 wz ⟨bz, rfl, hw0⟩; subst wz; cases bz)
      all_goals
        go_ret
        exact ⟨rfl, Below.refl _ _⟩
  · clear hl
    go_enter Try.func3, Try.ntmps3
    go_wp2_with (go_at_call 10; refine (bytes10 _ _ _ _ _ _ _ _ _ M0.out M1.out M2.out M3.out).mono ?_; rintro x0 wz ⟨bz, rfl, hw0⟩; subst wz; cases bz)
    all_goals
      go_ret
      exact ⟨rfl, Below.refl _ _⟩

/-- THE LAW's WALK, for whatever comes in -/
theorem law3_any (a0 : Option Addr) (n0 c0 : Nat) (zs0 : List Int) (a1 : Option Addr) (n c1 : Nat) (cs : List Int) (pre ind : ByteArray) (w : World) (hin : In w a0 n0 c0 zs0) (hin1 : In w a1 n c1 cs) (hu : ∀ z ∈ cs, 0 ≤ z ∧ z ≤ 255)
    (m0 : n0 ≤ maxLen) (m1 : n ≤ maxLen) (m2 : pre.size ≤ maxLen) (m3 : ind.size ≤ maxLen) :
    Calls Try.prog 3 #[.slice a0 n0 c0, .slice a1 n c1, .string pre, .string ind] w fun x w' => x = .returned (.bool true) ∧ Below w.heap.size w w' := by
  by_cases hl : n0 ≤ 1048576 ∧ n ≤ 1048576 ∧ pre.size ≤ 1048576 ∧ ind.size ≤ 1048576
  · obtain ⟨h0, h1, h2, h3⟩ := hl
    rcases hin1 with ⟨rfl, rfl, rfl, rfl⟩ | ⟨ad, rfl, hby⟩
    · exact law3_nil a0 n0 c0 pre ind w h0 h2 h3
    · obtain ⟨f, P, hmj⟩ := mj_some cs (sbytes pre) (sbytes ind)
      by_cases hyes : ∃ r, P = some r ∧ r.p = n
      · obtain ⟨r, rfl, hrp⟩ := hyes
        exact law3_yes a0 n0 c0 zs0 ad n c1 cs pre ind w f r hin hby hu h0 h1 h2 h3 hmj hrp
      · exact law3_no a0 n0 c0 ad n c1 cs pre ind w f P hby h0 h1 h2 h3 hmj (fun r hr e => hyes ⟨r, hr, e⟩)
  · exact law3_long a0 n0 c0 a1 n c1 pre ind w m0 m1 m2 m3 hl
end Go.Proofs.Qxb6603067a
