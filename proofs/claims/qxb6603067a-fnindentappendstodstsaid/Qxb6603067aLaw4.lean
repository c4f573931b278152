/-
  THE WALK of the law FnIndentAppendsToDst (4).
-/
import Derived.Test.Qxb6603067aLaw3
import Derived.Test.Qxb6603067aIWalk2
namespace Go.Proofs.Qxb6603067a
open Go.RowKit
open Plain

set_option maxRecDepth 10000 in
set_option maxHeartbeats 400000 in
theorem hasPrefix_yes (a : Option Addr) (n c B : Nat) (xs : List Int) (s : ByteArray) (w : World) (hn : n ≤ 140737488355328) (hb : Bytes w B a n xs) (hs : s.size ≤ n) (hp : ∀ i, i < s.size → xs.getD i 0 = (sbytes s).getD i 0) :
    Calls Try.prog 17 #[.slice a n c, .string s] w fun x w' => x = .returned (.bool true) ∧ ∃ q, w' = w.drewN q := by
  have HP : Hid (∀ i, i < s.size → xs.getD i 0 = (sbytes s).getD i 0) := hp
  have HB : Hid (Bytes w B a n xs) := hb
  clear hp hb
  go_enter Try.func17, Try.ntmps17
  go_wp2
  go_loopw [5] (fun i wr => ∃ k q : Nat, i = .int .i64 k ∧ k ≤ s.size ∧ wr = w.drewN q) (fun i _ => s.size - (intOf i).toNat)
  case atStart => exact ⟨0, 0, rfl, Nat.zero_le _, rfl⟩
  case round =>
    obtain ⟨k, q, rfl, hk, rfl⟩ := hrel
    by_cases hlt : k < s.size
    · obtain ⟨b1, o1, hab, g1⟩ : ∃ b1 o1, a = some ⟨b1, o1, none⟩ ∧ w.cell? ⟨b1, o1 + k, none⟩ = some (.int .u8 (xs.getD k 0)) := by
        rcases HB.out.2 with h0 | ⟨b, off, ha, _, hc⟩
        · omega
        · exact ⟨b, off, ha, hc k (by omega)⟩
      subst hab
      have hx : xs.getD k 0 = (s[k].toNat : Int) := by
        rw [HP.out k hlt]
        have hl : k < (sbytes s).length := by rw [sbytes_length]; exact hlt
        simp [List.getD_eq_getElem?_getD, hl]
        simp [sbytes]
        rfl
      rw [hx] at g1
      clear hx
      go_wp2
      go_quiet (fail)
      go_wp2
      go_roundw
      case rel => exact ⟨k + 1, _, by go_num, by omega, rfl⟩
      case measure => simp [intOf]; omega
    · go_wp2
      go_ret
      exact ⟨rfl, _, rfl⟩

theorem own_addr {w : World} {b : Nat} {a : Option Addr} {n c : Nat} {l : List Int} (h : Own w b (.slice a n c) l) (hl : l ≠ []) : ∃ g, a = some ⟨g, 0, none⟩ := by
  rcases h.shape with ⟨_, h2⟩ | ⟨g, cap, e, _⟩
  · exact absurd h2 hl
  · simp only [Value.slice.injEq] at e
    exact ⟨g, e.1⟩
theorem own_cell {w : World} {b g n c : Nat} {l : List Int} (h : Own w b (.slice (some ⟨g, 0, none⟩) n c) l) {i : Nat} (hi : i < l.length) : w.cell? ⟨g, i, none⟩ = some (.int .u8 (l.getD i 0)) := by
  rcases h.shape with ⟨h2, _⟩ | ⟨g', cap, e, _, _, _, hc⟩
  · cases h2
  · simp only [Value.slice.injEq, Option.some.injEq, Addr.mk.injEq] at e
    obtain ⟨⟨rfl, _⟩, _⟩ := e
    exact hc i hi

/-- where all lies behind the append that makes 'want' -/
theorem mid4 {w w2 w3 w4 w5 w6 w7 : World} {cs zs0 : List Int} {a4 a5 a6 : Option Addr} {n0 c4 c5 n n6 c6 : Nat} {L : List Int} (hr2 : Row w2 w.heap.size cs) (hcs : cs.length = n) (hb2 : Below w.heap.size w w2) (hb3 : Below w2.heap.size w2 w3) (hcl4 : Cl w3 w4 a4 n0 c4 zs0) (hb4 : Below w3.heap.size w3 w4)
    (hcl5 : Cl w4 w5 a5 n0 c5 zs0) (hb5 : Below w4.heap.size w4 w5) (hb6 : Below w5.heap.size w5 w6) (ho6 : Own w6 0 (.slice a6 n6 c6) L) (hnew : ∀ g, (Value.slice a6 n6 c6).ownBlock = some g → w5.heap.size ≤ g) (hg7 : w6.grownBy w7 (Value.slice a5 n0 c5).ownBlock) :
    Own w7 0 (.slice a6 n6 c6) L ∧ Full w7 (.slice a4 n0 c4) zs0 ∧ BytesX w7 w7.heap.size none (some ⟨w.heap.size, 0, none⟩) n cs ∧ Below w.heap.size w w7 := by
  have h := mid3 hr2 hcs hb2 hb3 hcl4 hb4 hcl5 hb5 hb6 hg7
  refine ⟨ho6.kept hg7 ?_, h⟩
  cases e : (Value.slice a6 n6 c6).ownBlock with
  | none => exact .inl rfl
  | some g =>
    refine .inr (fun e2 => ?_)
    have h1 := hnew g e
    have h2 := hcl5.block e2.symm
    omega

set_option maxRecDepth 10000 in
set_option maxHeartbeats 4000000 in
theorem law4_yes (a0 : Option Addr) (n0 c0 : Nat) (zs0 : List Int) (ad : Addr) (n c1 : Nat) (cs : List Int) (pre ind : ByteArray) (w : World) (f : Nat) (r : MR) (hin : In w a0 n0 c0 zs0) (hby : Bytes w w.heap.size (some ad) n cs) (hu : ∀ z ∈ cs, 0 ≤ z ∧ z ≤ 255)
    (hn0 : n0 ≤ 1048576) (hn : n ≤ 1048576) (hp : pre.size ≤ 1048576) (hi : ind.size ≤ 1048576) (hmj : mj cs (sbytes pre) (sbytes ind) f none 0 0 = some (some r)) (hrp : r.p = n) :
    Calls Try.prog 4 #[.slice a0 n0 c0, .slice (some ad) n c1, .string pre, .string ind] w fun x w' => x = .returned (.bool true) ∧ Below w.heap.size w w' := by
  have hnil := run_neq_slice_nil_any (P := Try.prog) w 22 5 (some ad) n c1 0 0 Try.underlying22
  simp only [Option.isNone_some, Bool.not_false] at hnil
  have hcl : Hid (cs.length = n) := hby.1
  have HIN : Hid (In w a0 n0 c0 zs0) := hin
  have HBY : Hid (Bytes w w.heap.size (some ad) n cs) := hby
  have HU : Hid _ := hu
  have HMJ : Hid _ := hmj
  have HRP : Hid _ := hrp
  have hpos : Hid (0 < n) := by
    show 0 < n
    have := (mj_head hmj).1
    rw [hcl.out] at this
    exact this
  have HLEN : Hid (r.ln * (1 + pre.size + r.dp * ind.size) ≤ 16777216 → r.out.length ≤ 20000000) := fun h => mj_len hmj (by rw [sbytes_length, sbytes_length]; exact h) (by rw [hcl.out]; exact hn)
  obtain ⟨T, hT⟩ : ∃ T, T = zs0 ++ sbytes pre ++ r.out := ⟨_, rfl⟩
  have HRT : Hid (RunTo cs (sbytes pre) (sbytes ind) 0 0 (zs0 ++ sbytes pre) T) := by rw [hT]; exact runTo_mj hmj (by rw [hcl.out]; exact hrp) _
  obtain ⟨U, hU⟩ : ∃ U, U = sbytes pre ++ r.out := ⟨_, rfl⟩
  have HRU : Hid (RunTo cs (sbytes pre) (sbytes ind) 0 0 ([] ++ sbytes pre) U) := by rw [hU]; exact runTo_mj hmj (by rw [hcl.out]; exact hrp) _
  have HTL : Hid (T ++ [10] = zs0 ++ (U ++ [10])) := by show _ = _; rw [hT, hU]; simp [List.append_assoc]
  have HUU : Hid (U.length = pre.size + r.out.length) := by show _ = _; rw [hU]; simp [sbytes_length]
  have HTT : Hid (T.length = zs0.length + pre.size + r.out.length) := by show _ = _; rw [hT]; simp [sbytes_length]; omega
  have HUP : Hid (∀ i, i < pre.size → (U ++ [10]).getD i 0 = (sbytes pre).getD i 0) := by
    intro i hi
    have hi' : i < (sbytes pre).length := by rw [sbytes_length]; exact hi
    rw [hU]
    simp [List.getD_eq_getElem?_getD, List.getElem?_append, hi']
  have HU10 : Hid ((U ++ [10]).getD U.length 0 = 10) := by show _ = _; simp [List.getD_eq_getElem?_getD]
  have hUp : pre.size ≤ U.length := by have := HUU.out; omega
  have hUb : Hid (r.out.length ≤ 20000000 → U.length ≤ 30000000) := fun h => by have := HUU.out; omega
  clear hin hby hu hmj hrp hT hU
  go_enter Try.func4, Try.ntmps4
  go_wp2_with (first
    | (go_at_call 17; refine (hasPrefix_yes (some ⟨g6, 0, none⟩) _ _ w8.heap.size (U ++ [10]) pre _ (by have := HLEN.out (HF.out (by trivial)); have := HUU.out; omega) (Bytes.drewN hB6 q9) (by have := HUU.out; omega) HUP.out).mono ?_; rintro xa wa ⟨rfl, qa, hwa⟩; subst wa; have hUs : U.length ≤ 30000000 := hUb.out (HLEN.out (HF.out (by trivial))))
    | (go_at_call 15; refine (equal_two a8 a7 _ _ _ _ w8.heap.size (T ++ [10]) _ (by have h1 := congrArg List.length HTL.out; simp only [List.length_append, List.length_cons, List.length_nil] at h1; exact h1) (by have := HLEN.out (HF.out (by trivial)); have := HTT.out; have := HZ0.out; omega) hB8 hB7).mono ?_; rintro x9 w9 ⟨rfl, q9, hw9⟩; subst w9)
    | (go_at_call_of 14 a4; refine (indent_any (.slice a4 n0 c4) zs0 w.heap.size 0 n n cs pre ind _ T hm7.2.1 hm7.2.2.1 HU.out hpos.out hn (Nat.le_refl _) (by omega) (by rw [HZ0.out]; exact hn0) hp hi HRT.out (by have := HLEN.out (HF.out (by trivial)); have := HTT.out; have := HZ0.out; omega)).mono ?_; rintro x8 w8 ⟨a8, c8, rfl, ho8, hk8⟩; have hB8 := (Own.bytes2 ho8).2.2; have hB7 : Bytes w8 w8.heap.size a7 (zs0.length + (U.length + 1)) (T ++ [10]) := (by rw [HTL.out]; exact (Own.bytes2 (Own.later ho7 hk8.below (Nat.le_refl _))).2.2); have hB6 := (Own.bytes2 (Own.later hm7.1 hk8.below (Nat.le_refl _))).2.2; have hc10 : w8.cell? ⟨g6, U.length, none⟩ = some (.int .u8 10) := (by have h1 := own_cell (Own.later hm7.1 hk8.below (Nat.le_refl _)) (i := U.length) (by simp); rw [HU10.out] at h1; exact h1))
    | (at_builtin; refine wpList_app_bytes rfl _ _ rfl w4.heap.size _ zs0 rfl (Own.later (hcl5.own hn0) hk6.below (Nat.le_refl _)) _ (U.length + 1) c6 (U ++ [10]) rfl _ (Own.bytes2 ho6).2.2 (Own.bytes2 ho6).2.1 (by have := HLEN.out (HF.out (by trivial)); have := HUU.out; have := HZ0.out; omega) (by have := hb5.size; have := hk6.below.size; omega) ?_; intro a7 c7 w7 ho7 hg7 hl7; have hm7 := mid4 hr2 hcl.out (hb1.trans hb2) hb3 hcl4 hb4 hcl5 hb5 hk6.below ho6 HG6.out hg7)
    | (go_at_call_of 14 (Value.slice none 0 0); refine (indent_any2 (.slice none 0 0) [] w.heap.size 0 n n cs pre ind _ U (.inl ⟨rfl, rfl⟩) (Row.bytesX (row_later3 hr2 hb3 hb4 hb5) hcl.out (Row.lt (row_later3 hr2 hb3 hb4 hb5))) HU.out hpos.out hn (Nat.le_refl _) (by omega) (by simp) hp hi HRU.out (by have := HLEN.out (HF.out (by trivial)); have := HUU.out; omega)).mono ?_; rintro x6 w6 ⟨a6, c6, rfl, ho6, hk6, hg6⟩; obtain ⟨g6, hg6a⟩ := own_addr ho6 (by simp); subst hg6a; have HG6 : Hid (∀ g, (Value.slice (some ⟨g6, 0, none⟩) (U.length + 1) c6).ownBlock = some g → w5.heap.size ≤ g) := hg6; clear hg6)
    | (go_at_call_of 13 a4; refine (clone_any a4 n0 c4 zs0 _ hn0 (Cl.in hcl4)).mono ?_; rintro x5 w5 ⟨a5, c5, rfl, hcl5, hb5⟩)
    | (go_at_call_of 13 a0; refine (clone_any a0 n0 c0 zs0 _ hn0 (In.later (w := w) HIN.out (bel3 (hb1.trans hb2) hb3))).mono ?_; rintro x4 w4 ⟨a4, c4, rfl, hcl4, hb4⟩; have HZ0 : Hid _ := hcl4.len)
    | (go_at_call 12; refine (fits_any pre ind r.ln r.dp _ hp hi).mono ?_; rintro x4 wz ⟨bf, rfl, hw4, HF⟩; subst wz; cases bf)
    | (go_at_call 11; refine (layOut_yes _ n n cs pre ind false f r _ (hr2.whole hcl.out) hn hp hi HMJ.out HRP.out (fun h => absurd h (by decide))).mono ?_; rintro x3 w3 ⟨ao3, co3, rfl, ho3, hb3⟩)
    | (go_at_call 16; refine (bytes16 _ _ _ _ _ _ _ _ _ (by unfold maxLen; omega) (by unfold maxLen; omega) (by unfold maxLen; omega) (by unfold maxLen; omega)).mono ?_; rintro x0 wz ⟨bz, rfl, hw0⟩; subst wz; cases bz)
    | (at_make; refine wpList_make_bytes rfl _ _ rfl _ _ _ _ n rfl rfl (by omega) (by omega) (by omega) ?_; intro w1 hs1 hr1 hb1)
    | (refine wpList_copy_bytes rfl (.tmp 40) (.tmp 41) rfl w.heap.size n _ _ _ _ cs rfl rfl hr1 (by simp) w.heap.size (Bytes.later HBY.out hb1 (Nat.le_refl _)) ?_; intro w2 hr2 hb2))
  · go_ret
    exact ⟨rfl, Below.refl _ _⟩
  · go_ret
    exact ⟨rfl, bel3 (hb1.trans hb2) hb3⟩
  · go_ret
    refine ⟨rfl, below_drewN ?_ _⟩
    exact hm7.2.2.2.trans (hk8.below.mono hm7.2.2.2.size)

set_option maxRecDepth 10000 in
set_option maxHeartbeats 1000000 in
theorem law4_no (a0 : Option Addr) (n0 c0 : Nat) (ad : Addr) (n c1 : Nat) (cs : List Int) (pre ind : ByteArray) (w : World) (f : Nat) (P : Option MR) (hby : Bytes w w.heap.size (some ad) n cs)
    (hn0 : n0 ≤ 1048576) (hn : n ≤ 1048576) (hp : pre.size ≤ 1048576) (hi : ind.size ≤ 1048576) (hmj : mj cs (sbytes pre) (sbytes ind) f none 0 0 = some P) (hno : ∀ r, P = some r → r.p ≠ n) :
    Calls Try.prog 4 #[.slice a0 n0 c0, .slice (some ad) n c1, .string pre, .string ind] w fun x w' => x = .returned (.bool true) ∧ Below w.heap.size w w' := by
  have hnil := run_neq_slice_nil_any (P := Try.prog) w 22 5 (some ad) n c1 0 0 Try.underlying22
  simp only [Option.isNone_some, Bool.not_false] at hnil
  have hcl : Hid (cs.length = n) := hby.1
  have HBY : Hid (Bytes w w.heap.size (some ad) n cs) := hby
  have HMJ : Hid _ := hmj
  have HNO : Hid (∀ r, P = some r → r.p ≠ n) := hno
  clear hby hmj hno
  go_enter Try.func4, Try.ntmps4
  go_wp2_with (first
    | (go_at_call 11; refine (layOut_no _ n n cs pre ind f P _ (hr2.whole hcl.out) hn hp hi HMJ.out HNO.out).mono ?_; rintro x3 w3 ⟨rfl, hb3⟩)
    | (go_at_call 16; refine (bytes16 _ _ _ _ _ _ _ _ _ (by unfold maxLen; omega) (by unfold maxLen; omega) (by unfold maxLen; omega) (by unfold maxLen; omega)).mono ?_; rintro x0 wz ⟨bz, rfl, hw0⟩; subst wz; cases bz)
    | (at_make; refine wpList_make_bytes rfl _ _ rfl _ _ _ _ n rfl rfl (by omega) (by omega) (by omega) ?_; intro w1 hs1 hr1 hb1)
    | (refine wpList_copy_bytes rfl (.tmp 40) (.tmp 41) rfl w.heap.size n _ _ _ _ cs rfl rfl hr1 (by simp) w.heap.size (Bytes.later HBY.out hb1 (Nat.le_refl _)) ?_; intro w2 hr2 hb2))
  · go_ret
    exact ⟨rfl, Below.refl _ _⟩
  · go_ret
    exact ⟨rfl, bel3 (hb1.trans hb2) hb3⟩

set_option maxRecDepth 10000 in
set_option maxHeartbeats 1000000 in
theorem law4_nil (a0 : Option Addr) (n0 c0 : Nat) (pre ind : ByteArray) (w : World) (hn0 : n0 ≤ 1048576) (hp : pre.size ≤ 1048576) (hi : ind.size ≤ 1048576) :
    Calls Try.prog 4 #[.slice a0 n0 c0, .slice none 0 0, .string pre, .string ind] w fun x w' => x = .returned (.bool true) ∧ Below w.heap.size w w' := by
  have hnil := run_neq_slice_nil_any (P := Try.prog) w 22 5 none 0 0 0 0 Try.underlying22
  simp only [Option.isNone_none, Bool.not_true] at hnil
  have HMJ : Hid (mj [] (sbytes pre) (sbytes ind) 1 none 0 0 = some none) := by show _ = _; simp [mj]
  go_enter Try.func4, Try.ntmps4
  go_wp2_with (first
    | (go_at_call 11; refine (layOut_no none 0 0 [] pre ind 1 none _ (Bytes.empty _ _ _) (by omega) hp hi HMJ.out (fun r hr => by cases hr)).mono ?_; rintro x3 w3 ⟨rfl, hb3⟩)
    | (go_at_call 16; refine (bytes16 _ _ _ _ _ _ _ _ _ (by unfold maxLen; omega) (by unfold maxLen; omega) (by unfold maxLen; omega) (by unfold maxLen; omega)).mono ?_; rintro x0 wz ⟨bz, rfl, hw0⟩; subst wz; cases bz))
  · go_ret
    exact ⟨rfl, Below.refl _ _⟩
  · go_ret
    exact ⟨rfl, hb3⟩

set_option maxRecDepth 10000 in
theorem law4_long (a0 : Option Addr) (n0 c0 : Nat) (a1 : Option Addr) (n c1 : Nat) (pre ind : ByteArray) (w : World) (m0 : n0 ≤ maxLen) (m1 : n ≤ maxLen) (m2 : pre.size ≤ maxLen) (m3 : ind.size ≤ maxLen)
    (hl : ¬ (n0 ≤ 1048576 ∧ n ≤ 1048576 ∧ pre.size ≤ 1048576 ∧ ind.size ≤ 1048576)) :
    Calls Try.prog 4 #[.slice a0 n0 c0, .slice a1 n c1, .string pre, .string ind] w fun x w' => x = .returned (.bool true) ∧ Below w.heap.size w w' := by
  have M0 : Hid (n0 ≤ maxLen) := m0
  have M1 : Hid (n ≤ maxLen) := m1
  have M2 : Hid (pre.size ≤ maxLen) := m2
  have M3 : Hid (ind.size ≤ maxLen) := m3
  unfold maxLen at m0 m1 m2 m3
  by_cases h0 : n0 ≤ 1048576
  · by_cases h1 : n ≤ 1048576
    · by_cases h2 : pre.size ≤ 1048576
      · have h3 : ¬ ind.size ≤ 1048576 := fun h3 => hl ⟨h0, h1, h2, h3⟩
        clear hl
        go_enter Try.func4, Try.ntmps4
        go_wp2_with (go_at_call 16; refine (bytes16 _ _ _ _ _ _ _ _ _ M0.out M1.out M2.out M3.out).mono ?_; rintro x0 wz ⟨bz, rfl, hw0⟩; subst wz; cases bz)
        all_goals
          go_ret
          exact ⟨rfl, Below.refl _ _⟩
      · clear hl
        go_enter Try.func4, Try.ntmps4
        go_wp2_with (go_at_call 16; refine (bytes16 _ _ _ _ _ _ _ _ _ M0.out M1.out M2.out M3.out).mono ?_; rintro x0 wz ⟨bz, rfl, hw0⟩; subst wz; cases bz)
        all_goals
          go_ret
          exact ⟨rfl, Below.refl _ _⟩
    · clear hl
      go_enter Try.func4, Try.ntmps4
      go_wp2_with (go_at_call 16; refine (bytes16 _ _ _ _ _ _ _ _ _ M0.out M1.out M2.out M3.out).mono ?_; rintro x0 wz ⟨bz, rfl, hw0⟩; subst wz; cases bz)
      all_goals
        go_ret
        exact ⟨rfl, Below.refl _ _⟩
  · clear hl
    go_enter Try.func4, Try.ntmps4
    go_wp2_with (go_at_call 16; refine (bytes16 _ _ _ _ _ _ _ _ _ M0.out M1.out M2.out M3.out).mono ?_; rintro x0 wz ⟨bz, rfl, hw0⟩; subst wz; cases bz)
    all_goals
      go_ret
      exact ⟨rfl, Below.refl _ _⟩

/-- THE LAW's WALK, for whatever comes in -/
theorem law4_any (a0 : Option Addr) (n0 c0 : Nat) (zs0 : List Int) (a1 : Option Addr) (n c1 : Nat) (cs : List Int) (pre ind : ByteArray) (w : World) (hin : In w a0 n0 c0 zs0) (hin1 : In w a1 n c1 cs) (hu : ∀ z ∈ cs, 0 ≤ z ∧ z ≤ 255)
    (m0 : n0 ≤ maxLen) (m1 : n ≤ maxLen) (m2 : pre.size ≤ maxLen) (m3 : ind.size ≤ maxLen) :
    Calls Try.prog 4 #[.slice a0 n0 c0, .slice a1 n c1, .string pre, .string ind] w fun x w' => x = .returned (.bool true) ∧ Below w.heap.size w w' := by
  by_cases hl : n0 ≤ 1048576 ∧ n ≤ 1048576 ∧ pre.size ≤ 1048576 ∧ ind.size ≤ 1048576
  · obtain ⟨h0, h1, h2, h3⟩ := hl
    rcases hin1 with ⟨rfl, rfl, rfl, rfl⟩ | ⟨ad, rfl, hby⟩
    · exact law4_nil a0 n0 c0 pre ind w h0 h2 h3
    · obtain ⟨f, P, hmj⟩ := mj_some cs (sbytes pre) (sbytes ind)
      by_cases hyes : ∃ r, P = some r ∧ r.p = n
      · obtain ⟨r, rfl, hrp⟩ := hyes
        exact law4_yes a0 n0 c0 zs0 ad n c1 cs pre ind w f r hin hby hu h0 h1 h2 h3 hmj hrp
      · exact law4_no a0 n0 c0 ad n c1 cs pre ind w f P hby h0 h1 h2 h3 hmj (fun r hr e => hyes ⟨r, hr, e⟩)
  · exact law4_long a0 n0 c0 a1 n c1 pre ind w m0 m1 m2 m3 hl
end Go.Proofs.Qxb6603067a
