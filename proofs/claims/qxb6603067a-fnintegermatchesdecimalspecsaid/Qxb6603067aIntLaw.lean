/-
  THE WALK of FnIntegerMatchesDecimalSpec (function 8).
-/
import Derived.Test.Qxb6603067aDecWalk
import Derived.Deep.RegionWith
import Derived.Deep.RegionHeld3
import Derived.Deep.DeepCutAuto
import Derived.Deep.CutBlock
namespace Go.Proofs.Qxb6603067a
open Go.RowKit
open Plain

theorem digs_take (l : List Int) : digs l = l.take (digs l).length := by
  induction l with
  | nil => rfl
  | cons x xs ih =>
    cases hx : dg x
    · rw [digs_no hx]; rfl
    · rw [digs_yes hx, List.length_cons, List.take_succ_cons, ← ih]
theorem digs_le (l : List Int) : (digs l).length ≤ l.length := by
  have h := congrArg List.length (digs_take l)
  simp at h; omega
theorem digs_at (l : List Int) : ∀ c, c < (digs l).length → 48 ≤ l.getD c 0 ∧ l.getD c 0 ≤ 57 := by
  induction l with
  | nil => intro c h; simp [digs] at h
  | cons x xs ih =>
    intro c h
    cases hx : dg x
    · rw [digs_no hx] at h; simp at h
    · rw [digs_yes hx] at h
      cases c with
      | zero => simpa using (dg_iff x).1 hx
      | succ c => simpa using ih c (by simpa using h)
theorem digs_end (l : List Int) : (digs l).length < l.length → ¬ (48 ≤ l.getD (digs l).length 0 ∧ l.getD (digs l).length 0 ≤ 57) := by
  induction l with
  | nil => intro h; simp at h
  | cons x xs ih =>
    intro h
    cases hx : dg x
    · rw [digs_no hx]
      intro h2
      have := (dg_iff x).2 (by simpa using h2)
      rw [hx] at this
      cases this
    · rw [digs_yes hx] at h ⊢
      simpa using ih (by simpa using h)

/-- the run of digits at place j of zs: n of them -/
structure Dig (zs : List Int) (j n : Nat) : Prop where
  len : n = (digs (zs.drop j)).length
  le : j ≤ zs.length → j + n ≤ zs.length
  dig : ∀ c, c < n → 48 ≤ zs.getD (j + c) 0 ∧ zs.getD (j + c) 0 ≤ 57
  stop : j + n < zs.length → ¬ (48 ≤ zs.getD (j + n) 0 ∧ zs.getD (j + n) 0 ≤ 57)

theorem getD_drop (zs : List Int) (j c : Nat) : (zs.drop j).getD c 0 = zs.getD (j + c) 0 := by
  simp [List.getD_eq_getElem?_getD]

theorem dig_of (zs : List Int) (j : Nat) : Dig zs j (digs (zs.drop j)).length := by
  refine ⟨rfl, ?_, ?_, ?_⟩
  · intro h
    have := digs_le (zs.drop j)
    simp at this; omega
  · intro c hc
    rw [← getD_drop]
    exact digs_at _ c hc
  · intro h
    rw [← getD_drop]
    exact digs_end _ (by simp; omega)

set_option maxRecDepth 10000 in
theorem too_long (a : Option Addr) (len cap : Nat) (i bits : Int) (w : World) (hm : len ≤ maxLen) (hlen : 1048576 < len) :
    Calls Try.prog 8 #[.slice a len cap, .int .i64 i, .int .i64 bits] w fun x w' => x = .returned (.bool true) ∧ w' = w := by
  unfold maxLen at hm
  go_enter Try.func8, Try.ntmps8
  go_wp2
  go_ret
  exact ⟨rfl, rfl⟩

set_option maxRecDepth 10000 in
theorem out_of (a : Option Addr) (len cap : Nat) (i bits : Int) (w : World) (hlen : len ≤ 1048576) (hout : i < 0 ∨ bits < 1 ∨ 64 < bits) :
    Calls Try.prog 8 #[.slice a len cap, .int .i64 i, .int .i64 bits] w fun x w' => x = .returned (.bool true) ∧ w' = w := by
  by_cases h1 : i < 0
  · go_enter Try.func8, Try.ntmps8
    go_wp2
    go_ret
    exact ⟨rfl, rfl⟩
  · by_cases h2 : bits < 1
    · clear hout
      go_enter Try.func8, Try.ntmps8
      go_wp2
      go_ret
      exact ⟨rfl, rfl⟩
    · have h3 : 64 < bits := by omega
      clear hout
      go_enter Try.func8, Try.ntmps8
      go_wp2
      go_ret
      exact ⟨rfl, rfl⟩


/-- all that the law reckons with: is there a sign, where the digits begin, how many there are, the first of them, is the text canonical -/
structure Plan (zs : List Int) (i : Nat) (neg : Bool) (j n : Nat) (y : Int) : Prop where
  sign : neg = decide (zs.getD i 0 = 45)
  start : j = if neg then i + 1 else i
  digs : Dig zs j n
  first : y = zs.getD j 0

def canon (neg : Bool) (n : Nat) (y : Int) : Bool := (decide (1 ≤ n) && !(decide (1 < n) && (y == 48))) && !((neg && (n == 1)) && (y == 48))

theorem Plan.facts {zs : List Int} {i : Nat} {neg : Bool} {j n : Nat} {y : Int} (h : Plan zs i neg j n y) (hi : i ≤ 9223372036854775807) (hzl : zs.length ≤ 1048576) :
    j ≤ 9223372036854775807 ∧ (n = 0 ∨ j + n ≤ zs.length) ∧ (neg = true → i < zs.length ∧ j = i + 1) ∧ (neg = false → j = i) ∧ (i < zs.length → j + n ≤ zs.length) := by
  have hd := h.digs
  have hneg : neg = true → i < zs.length := by
    intro e
    have hs := h.sign
    rw [e] at hs
    have hs' := of_decide_eq_true hs.symm
    apply Classical.byContradiction
    intro hc
    simp [hc] at hs'
  have hj := h.start
  have hz : zs.length ≤ j → n = 0 := by
    intro hc
    have := hd.len
    rw [List.drop_eq_nil_of_le hc] at this
    simpa [Plain.digs] using this
  cases hn : neg
  · rw [hn] at hj
    simp at hj
    refine ⟨by omega, ?_, by simp, fun _ => hj, ?_⟩
    · by_cases hc : zs.length ≤ j
      · exact .inl (hz hc)
      · exact .inr (hd.le (by omega))
    · intro hlt; exact hd.le (by omega)
  · have := hneg hn
    rw [hn] at hj
    simp at hj
    refine ⟨by omega, .inr (hd.le (by omega)), fun _ => ⟨this, hj⟩, by simp, fun _ => hd.le (by omega)⟩

theorem Bytes.sub {w : World} {B b off len : Nat} {zs : List Int} (h : Bytes w B (some ⟨b, off, none⟩) len zs) (lo n : Nat) (hn : lo + n ≤ len) : Bytes w B (some ⟨b, off + lo, none⟩) n ((zs.drop lo).take n) := by
  obtain ⟨hz, h0 | ⟨b', off', hab, hB, hc⟩⟩ := h
  · refine ⟨by simp; omega, .inl (by omega)⟩
  · cases hab
    refine ⟨by simp; omega, .inr ⟨b, off + lo, rfl, hB, fun i hi => ?_⟩⟩
    rw [Nat.add_assoc, hc (lo + i) (by omega)]
    simp [List.getD_eq_getElem?_getD, hi]

theorem wrapL {L bits : Nat} (hL : L = 2 ^ (bits - 1)) (hb2 : bits ≤ 64) : IntKind.u64.wrap (2 ^ (bits - 1)) = (L : Int) := by
  have h2 : L ≤ 9223372036854775808 := by
    subst hL
    exact Nat.le_trans (Nat.pow_le_pow_right (by omega) (show bits - 1 ≤ 63 by omega)) (by decide)
  have e : ((2 : Int) ^ (bits - 1)) = ((2 ^ (bits - 1) : Nat) : Int) := by simp
  rw [e, ← hL, IntKind.wrap_u64]
  omega

theorem limit_le {L bits : Nat} (hL : L = 2 ^ (bits - 1)) (hb2 : bits ≤ 64) : L ≤ 9223372036854775808 := by
  subst hL
  exact Nat.le_trans (Nat.pow_le_pow_right (by omega) (show bits - 1 ≤ 63 by omega)) (by decide)

theorem Plan.take {zs : List Int} {i : Nat} {neg : Bool} {j n : Nat} {y : Int} (h : Plan zs i neg j n y) : (zs.drop j).take n = Plain.digs (zs.drop j) := by
  rw [h.digs.len, ← digs_take]

theorem can_dec {zs : List Int} {i : Nat} {neg : Bool} {j n : Nat} {y : Int} (h : Plan zs i neg j n y) (hc : canon neg n y = true) : 1 ≤ n ∧ IsDec ((zs.drop j).take n) (val 0 ((zs.drop j).take n)) := by
  unfold canon at hc
  simp only [Bool.and_eq_true, decide_eq_true_eq, Bool.not_eq_true', Bool.and_eq_false_iff, decide_eq_false_iff_not] at hc
  obtain ⟨⟨h1, h2⟩, _⟩ := hc
  refine ⟨h1, ?_⟩
  have hlen : ((zs.drop j).take n).length = n := by rw [h.take, ← h.digs.len]
  refine isDec_of (by rw [h.take]; exact allDig_digs _) (by omega) ?_
  rintro ⟨h3, h4⟩
  rw [hlen] at h3
  rcases h2 with h2 | h2
  · exact h2 h3
  · have h5 : y = 48 := by
      rw [h.first, ← h4]
      simp [List.getD_eq_getElem?_getD, show 0 < n by omega]
    simp [h5] at h2

theorem Bytes.cast {w : World} {B : Nat} {a : Option Addr} {n m : Nat} {zs : List Int} (h : Bytes w B a n zs) (e : n = m) : Bytes w B a m zs := by subst e; exact h

theorem ret_true {b : Bool} (h : b = true) : Ending.returned (.bool b) = .returned (.bool true) := by rw [h]

theorem equal_at (a b : Option Addr) (n1 n2 c1 c2 B : Nat) (xs : List Int) (w : World) (hn : n1 = n2) (hn2 : n2 ≤ 140737488355328) (ha : Bytes w B a n1 xs) (hb : Bytes w B b n2 xs) :
    Calls Try.prog 15 #[.slice a n1 c1, .slice b n2 c2] w fun x w' => x = .returned (.bool true) ∧ ∃ q, w' = w.drewN q := by
  subst hn
  exact equal_same a b n1 c1 c2 B xs w hn2 ha hb

theorem sign_digits {zs : List Int} {i : Nat} {j n : Nat} {y : Int} (hp : Plan zs i true j n y) (hi : i < zs.length) : (zs.drop i).take (j + n - i) = 45 :: (zs.drop j).take n := by
  have h1 := hp.start
  simp at h1
  subst h1
  have h2 := of_decide_eq_true hp.sign.symm
  rw [show i + 1 + n - i = n + 1 by omega, List.drop_eq_getElem_cons hi, List.take_succ_cons]
  simp [hi] at h2
  rw [h2]

theorem verdict {zs : List Int} {i bits L n j next : Nat} {neg can ok : Bool} {y v cm : Int} (hp : Plan zs i neg j n y) (hL : L = 2 ^ (bits - 1)) (_hb1 : 1 ≤ bits) (hb2 : bits ≤ 64) (hc : canon neg n y = can)
    (hm : cm = if can then cmpN (val 0 ((zs.drop j).take n)) L else 1) (hr : intAns L zs i = ⟨v, ok, next⟩) :
    (can = true ∧ ok = true ∧ next = j + n ∧ neg = true ∧ 0 < val 0 ((zs.drop j).take n) ∧ val 0 ((zs.drop j).take n) ≤ L ∧ v = -((val 0 ((zs.drop j).take n) : Nat) : Int) ∧ (cm = -1 ∨ cm = 0)) ∨
    (can = true ∧ ok = true ∧ next = j + n ∧ neg = false ∧ val 0 ((zs.drop j).take n) < L ∧ v = ((val 0 ((zs.drop j).take n) : Nat) : Int) ∧ cm = -1) ∨
    (can = true ∧ ok = false ∧ next = j + n ∧ neg = false ∧ v = wrap64 L ∧ cm = 0) ∨
    (can = true ∧ ok = false ∧ v = 0 ∧ j ≤ next ∧ next ≤ j + n ∧ cm = 1) ∨
    (can = false ∧ ok = false ∧ v = 0 ∧ j ≤ next ∧ next ≤ j + n) := by
  have hL63 := limit_le hL hb2
  have hlen : (Plain.digs (zs.drop j)).length = n := hp.digs.len.symm
  rw [hp.take] at hm ⊢
  obtain ⟨V, hV⟩ : ∃ V, V = val 0 (Plain.digs (zs.drop j)) := ⟨_, rfl⟩
  rw [← hV] at hm ⊢
  have hsign : (zs.getD i 0 = 45) = (neg = true) := by rw [hp.sign]; simp
  have hstart := hp.start
  have hy := hp.first
  unfold intAns at hr
  simp only [hsign] at hr
  rw [← hstart] at hr
  rw [← hy] at hr
  by_cases hover : L < V
  · have hro := run_over L (zs.drop j) 0 (by rw [← hV]; exact hover) (by omega)
    rw [hro.1] at hr
    simp only [if_true, IA.mk.injEq] at hr
    obtain ⟨rfl, rfl, rfl⟩ := hr
    rw [hlen] at hro
    cases can
    · exact .inr (.inr (.inr (.inr ⟨rfl, rfl, rfl, by omega, by omega⟩)))
    · refine .inr (.inr (.inr (.inl ⟨rfl, rfl, rfl, by omega, by omega, ?_⟩)))
      rw [hm]; simp [cmpN]; omega
  · have hrf := run_fits L (zs.drop j) 0 (by rw [← hV]; omega)
    rw [← hV, hlen] at hrf
    rw [hrf] at hr
    simp only [Bool.true_eq_false, if_false] at hr
    by_cases hbad : n = 0 ∨ (1 < n ∧ y = 48) ∨ (neg = true ∧ V = 0)
    · rw [if_pos hbad] at hr
      simp only [IA.mk.injEq] at hr
      obtain ⟨rfl, rfl, rfl⟩ := hr
      have hcf : can = false := by
        rw [← hc]
        cases hct : canon neg n y
        · rfl
        · exfalso
          obtain ⟨hn1, hdec⟩ := can_dec hp hct
          rw [hp.take, ← hV] at hdec
          rcases hbad with h | ⟨h1, h2⟩ | ⟨h1, h2⟩
          · omega
          · simp [canon, h2, h1] at hct
          · have := val_zero hdec h2
            rw [this] at hlen
            simp at hlen
            have hyy : y = 48 := by
              rw [hy, ← Nat.add_zero j, ← getD_drop]
              have h3 := digs_take (zs.drop j)
              rw [this] at h3
              have h4 : (zs.drop j).getD 0 0 = ([48] : List Int).getD 0 0 := by
                rw [h3]; simp [List.getD_eq_getElem?_getD]
              simpa using h4
            simp [canon, ← hlen, h1, hyy] at hct
      exact .inr (.inr (.inr (.inr ⟨hcf, rfl, rfl, by omega, by omega⟩)))
    · rw [if_neg hbad] at hr
      have hct : can = true := by
        rw [← hc]
        have h1 : ¬ n = 0 := fun h => hbad (.inl h)
        have h2 : ¬ (1 < n ∧ y = 48) := fun h => hbad (.inr (.inl h))
        have h3 : ¬ (neg = true ∧ V = 0) := fun h => hbad (.inr (.inr h))
        have h4 : neg = true → n = 1 → ¬ y = 48 := by
          intro hn h1' hy48
          apply h3
          refine ⟨hn, ?_⟩
          rw [hV, digs_take (zs.drop j), hlen, h1']
          have h5 : (zs.drop j).getD 0 0 = 48 := by rw [getD_drop, Nat.add_zero, ← hy]; exact hy48
          cases hd : zs.drop j with
          | nil => simp [val]
          | cons q qs =>
            rw [hd] at h5
            simp at h5
            simp [val, h5, dv]
        unfold canon
        simp only [Bool.and_eq_true, decide_eq_true_eq, Bool.not_eq_true', Bool.and_eq_false_iff, decide_eq_false_iff_not]
        refine ⟨⟨by omega, ?_⟩, ?_⟩
        · by_cases h : 1 < n
          · right; simp; intro e; exact h2 ⟨h, e⟩
          · left; exact h
        · by_cases h : neg = true
          · by_cases h' : n = 1
            · right; simpa using h4 h h'
            · left; right; simpa using h'
          · left; left; simpa using h
      subst hct
      simp only [if_true] at hm
      cases hn : neg
      · rw [hn] at hr
        simp only [Bool.false_eq_true, if_false, IA.mk.injEq] at hr
        obtain ⟨rfl, rfl, rfl⟩ := hr
        by_cases hlt : V < L
        · refine .inr (.inl ⟨rfl, by simpa using hlt, rfl, rfl, hlt, ?_, ?_⟩)
          · unfold wrap64; omega
          · rw [hm]; simp [cmpN]; omega
        · obtain rfl : V = L := by omega
          refine .inr (.inr (.inl ⟨rfl, by simp, rfl, rfl, rfl, ?_⟩))
          rw [hm]; simp [cmpN]
      · rw [hn] at hr
        simp only [if_true, IA.mk.injEq] at hr
        obtain ⟨rfl, rfl, rfl⟩ := hr
        refine .inl ⟨rfl, rfl, rfl, rfl, ?_, by omega, rfl, ?_⟩
        · apply Nat.pos_of_ne_zero
          intro h
          exact hbad (.inr (.inr ⟨hn, h⟩))
        · rw [hm]
          by_cases e : V = L
          · right; simp [cmpN, e]
          · left; simp [cmpN, e]; omega

set_option maxRecDepth 10000 in
set_option maxHeartbeats 2000000 in
theorem int_law (a : Option Addr) (len cap : Nat) (zs : List Int) (i bits L n j : Nat) (neg : Bool) (y : Int) (w : World) (hlen : len ≤ 1048576) (hb : Bytes w w.heap.size a len zs) (hlc : len ≤ cap)
    (hbt1 : 1 ≤ bits) (hbt2 : bits ≤ 64) (hL : L = 2 ^ (bits - 1)) (hi : i ≤ 9223372036854775807) (hp : Plan zs i neg j n y) (v : Int) (ok : Bool) (next : Nat) (hr : intAns L zs i = ⟨v, ok, next⟩) :
    Calls Try.prog 8 #[.slice a len cap, .int .i64 i, .int .i64 bits] w fun x w' => x = .returned (.bool true) ∧ Below w.heap.size w w' := by
  have hnil := run_neq_slice_nil_any (P := Try.prog) w 22 5 a len cap 0 0 Try.underlying22
  have hl := hb.1
  have HL : Hid _ := hL
  have HR : Hid _ := hr
  obtain ⟨hj1, hj2, hj3, hj4, hj5⟩ := hp.facts hi (by omega)
  obtain ⟨can, HC⟩ : ∃ can, Hid (canon neg n y = can) := ⟨_, rfl⟩
  obtain ⟨cm, HM⟩ : ∃ cm : Int, Hid (cm = if can then cmpN (val 0 ((zs.drop j).take n)) L else 1) := ⟨_, rfl⟩
  have HJ3 : Hid _ := hj3
  have HJ4 : Hid _ := hj4
  clear hL hr hj3 hj4
  go_enter Try.func8, Try.ntmps8
  go_upto_if 39 with (go_at_call 22; go_in)
  go_cut [0, 7] (fun d _ wx => ∃ a' cap', d = .slice a' len cap' ∧ len ≤ cap' ∧ Bytes wx wx.heap.size a' len zs ∧ Below w.heap.size w wx)
  case first =>
    as_aux_lemma =>
      cases a with
      | none =>
        go_wp2
        go_meet
        exact ⟨none, _, rfl, hlc, hb, Below.refl _ _⟩
      | some x =>
        go_wp2_with (first
          | (at_make; refine wpList_make_bytes rfl _ _ rfl _ _ _ _ len rfl rfl (by omega) (by omega) (by omega) ?_; intro w1 hs1 hr1 hb1)
          | (refine wpList_copy_bytes rfl (.tmp 43) (.tmp 44) rfl w.heap.size len _ _ _ _ zs rfl rfl hr1 (by simp) w.heap.size (hb.later hb1 (Nat.le_refl _)) ?_; intro w2 hr2 hb2))
        go_meet
        exact ⟨_, len, rfl, Nat.le_refl _, hr2.whole hl, hb1.trans hb2⟩
  case rest =>
    obtain ⟨a', cap', rfl, hlc', hbc, hB⟩ := hcut
    clear hb hnil hlc
    go_upto_region 12 with (go_at_call 23; refine (zzinteger_any a' len cap' zs i bits L wc hlen hbc hbt1 hbt2 HL.out hi _ _ _ HR.out).mono ?_; rintro x w3 ⟨rfl, hb3⟩)
    have hb3' := hbc.later hb3 hb3.size
    have hB3 : Below w.heap.size w w3 := hB.trans (hb3.mono hB.size)
    clear hbc hb3 hB
    go_cut [11] (fun t wx => t = .bool neg ∧ wx = w3)
    case first =>
      as_aux_lemma =>
        by_cases hil : i < len
        · obtain ⟨b, off, rfl, hbW, hcs⟩ : ∃ b off, a' = some ⟨b, off, none⟩ ∧ b < w3.heap.size ∧ ∀ i, i < len → w3.cell? ⟨b, off + i, none⟩ = some (.int .u8 (zs.getD i 0)) := by
            rcases hb3'.2 with h0 | h
            · omega
            · exact h
          have hci := hcs i hil
          obtain ⟨f, hf⟩ : ∃ f, zs.getD i 0 = f := ⟨_, rfl⟩
          have hs := hp.sign
          rw [hf] at hci hs
          clear hcs
          go_wp2
          go_meet
          exact ⟨by rw [hs]; congr 1, rfl⟩
        · have hs := hp.sign
          simp [show ¬ i < zs.length by omega] at hs
          subst hs
          go_wp2
          go_meet
          exact ⟨rfl, rfl⟩
    case rest =>
      obtain ⟨rfl, rfl⟩ := hcut
      go_upto_if 67 with fail
      go_cut [12] (fun t wx => t = .int .i64 j ∧ wx = wc)
      case first =>
        as_aux_lemma =>
          cases neg
          · have := HJ4.out rfl
            go_wp2
            go_meet
            exact ⟨by rw [this], rfl⟩
          · have := HJ3.out rfl
            go_wp2
            go_meet
            exact ⟨by rw [this.2]; go_num, rfl⟩
      case rest =>
        obtain ⟨rfl, rfl⟩ := hcut
        go_upto_block 0 with fail
        go_cut [13] (fun t wx => t = .int .i64 ((j : Int) + n) ∧ wx = wc)
        case first =>
          as_aux_lemma =>
            go_wp2_with fail
            go_loop [13] (fun k => ∃ c : Nat, c ≤ n ∧ k = .int .i64 ((j : Int) + c)) (fun k => len - (intOf k).toNat)
            case atStart => exact ⟨0, Nat.zero_le _, by go_num⟩
            case round =>
              obtain ⟨c, hcn, rfl⟩ := hrel
              by_cases hin : j + c < len
              · obtain ⟨b, off, rfl, hbW, hcs⟩ : ∃ b off, a' = some ⟨b, off, none⟩ ∧ b < wc.heap.size ∧ ∀ i, i < len → wc.cell? ⟨b, off + i, none⟩ = some (.int .u8 (zs.getD i 0)) := by
                  rcases hb3'.2 with h0 | h
                  · omega
                  · exact h
                have hcc := hcs (j + c) hin
                have hdig := hp.digs.dig c
                have hstop := hp.digs.stop
                clear hcs
                by_cases hlt : c < n
                · obtain ⟨hd1, hd2⟩ := hdig hlt
                  obtain ⟨x, hx⟩ : ∃ x, zs.getD (j + c) 0 = x := ⟨_, rfl⟩
                  rw [hx] at hcc hd1 hd2
                  clear hx hdig hstop
                  go_wp2_with (go_at_call 24; go_in)
                  go_round
                  case rel => exact ⟨c + 1, by omega, by go_num⟩
                  case measure => simp [intOf]; omega
                · obtain rfl : c = n := by omega
                  have hst := hstop (by omega)
                  obtain ⟨x, hx⟩ : ∃ x, zs.getD (j + c) 0 = x := ⟨_, rfl⟩
                  rw [hx] at hcc hst
                  clear hx hdig hstop
                  by_cases hlow : 48 ≤ x
                  · have hhi : 57 < x := by omega
                    clear hst
                    go_wp2_with (go_at_call 24; go_in)
                    go_meet
                    exact ⟨rfl, rfl⟩
                  · clear hst
                    go_wp2_with (go_at_call 24; go_in)
                    go_meet
                    exact ⟨rfl, rfl⟩
              · have hcn' : c = n := by omega
                subst hcn'
                go_wp2_with (go_at_call 24; go_in)
                go_meet
                exact ⟨rfl, rfl⟩
        case rest =>
          obtain ⟨rfl, rfl⟩ := hcut
          have e14 : (j : Int) + n - j = n := by omega
          go_upto_region 20 with fail
          clear e14
          go_cut [15] (fun t wx => t = .bool can ∧ wx = wc)
          case first =>
            as_aux_lemma =>
              by_cases h0 : n = 0
              · have h1 : n < 1 := by omega
                go_wp2
                go_meet
                exact ⟨by rw [← HC.out, show canon neg n y = false by simp [canon, h0]], rfl⟩
              · obtain ⟨b, off, rfl, hbW, hcs⟩ : ∃ b off, a' = some ⟨b, off, none⟩ ∧ b < wc.heap.size ∧ ∀ i, i < len → wc.cell? ⟨b, off + i, none⟩ = some (.int .u8 (zs.getD i 0)) := by
                  rcases hb3'.2 with h0 | h
                  · omega
                  · exact h
                have hcy := hcs j (by omega)
                rw [← hp.first] at hcy
                have hn1 : 1 ≤ n := by omega
                have h5 : decide (1 ≤ n) = true := by simp; omega
                clear hcs h0
                by_cases h1 : n = 1
                · have h3 : ((n : Int) == 1) = true := by simp; omega
                  have h4 : (n == 1) = true := by simp; omega
                  have h2 : n ≤ 1 := by omega
                  have h6 : decide (1 < n) = false := by simp; omega
                  clear h1
                  cases neg <;> cases hy : (y == 48)
                  all_goals
                    go_wp2
                    go_meet
                    exact ⟨by rw [← HC.out]; simp only [canon, hy, h4, h5, h6]; rfl, rfl⟩
                · have h2 : 1 < n := by omega
                  have h3 : ((n : Int) == 1) = false := by simp; omega
                  have h4 : (n == 1) = false := by simp; omega
                  have h6 : decide (1 < n) = true := by simp; omega
                  clear h1
                  cases neg <;> cases hy : (y == 48)
                  all_goals
                    go_wp2
                    go_meet
                    exact ⟨by rw [← HC.out]; simp only [canon, hy, h4, h5, h6]; rfl, rfl⟩
          case rest =>
            obtain ⟨rfl, rfl⟩ := hcut
            have hwL : IntKind.u64.wrap (2 ^ (bits - 1)) = (L : Int) := wrapL HL.out hbt2
            go_upto_if 120 with fail
            clear hwL
            go_cut [17] (fun t wx => t = .int .i64 cm ∧ Bytes wx wx.heap.size a' len zs ∧ Below w.heap.size w wx)
            case first =>
              as_aux_lemma =>
                cases can
                · have hm := HM.out
                  simp at hm
                  subst hm
                  go_wp2
                  go_meet
                  exact ⟨rfl, hb3', hB3⟩
                · obtain ⟨hn1, hdec⟩ := can_dec hp HC.out
                  have hL63 := limit_le HL.out hbt2
                  obtain ⟨b, off, rfl, hbW, _⟩ : ∃ b off, a' = some ⟨b, off, none⟩ ∧ b < wc.heap.size ∧ ∀ i, i < len → wc.cell? ⟨b, off + i, none⟩ = some (.int .u8 (zs.getD i 0)) := by
                    rcases hb3'.2 with h0 | h
                    · omega
                    · exact h
                  have hsub := hb3'.sub j n (by omega)
                  go_wp2_with fail
                  go_region_with (first
                    | (go_at_call 26; refine (utoa_any L _ (by omega)).mono ?_; rintro x w2 ⟨r, l, rfl, ho2, hd2, hb2⟩; obtain ⟨a2, c2, rfl, _, hby2⟩ := ho2.bytes (Nat.le_refl _); have hl20 := half_bound hd2 hL63)
                    | (go_at_call 25; refine (cmp_any _ a2 n l.length _ c2 w2.heap.size ((zs.drop j).take n) l _ (by omega) (by omega) ?_ ?_).mono ?_; exact Bytes.later (w := wc.drew) hsub hb2 hb2.size; exact hby2; rintro x w4 ⟨rfl, q, rfl⟩))
                  all_goals
                    go_wp2_with fail
                    go_meet
                    have hBw := Bytes.later (w := wc.drew) hb3' hb2 hb2.size
                    refine ⟨?_, hBw, ?_⟩
                    · rw [cmp_dec hdec hd2, HM.out]; simp
                    · exact below_drewN (hB3.drew.trans (hb2.mono hB3.size)) q
            case rest =>
              obtain ⟨rfl, hb4, hB4⟩ := hcut
              have hL63 := limit_le HL.out hbt2
              rcases verdict hp HL.out hbt1 hbt2 HC.out HM.out HR.out with ⟨rfl, rfl, rfl, rfl, hV0, hVL, rfl, hcm⟩ | ⟨rfl, rfl, rfl, rfl, hVL, rfl, rfl⟩ | ⟨rfl, rfl, rfl, rfl, rfl, rfl⟩ | ⟨rfl, rfl, rfl, hn1, hn2, rfl⟩ | ⟨rfl, rfl, rfl, hn1, hn2⟩
              · as_aux_lemma =>
                  obtain ⟨hn1, hdec⟩ := can_dec hp HC.out
                  obtain ⟨hil, hji⟩ := HJ3.out rfl
                  obtain ⟨b, off, rfl, hbW, _⟩ : ∃ b off, a' = some ⟨b, off, none⟩ ∧ b < wc.heap.size ∧ ∀ i, i < len → wc.cell? ⟨b, off + i, none⟩ = some (.int .u8 (zs.getD i 0)) := by
                    rcases hb4.2 with h0 | h
                    · omega
                    · exact h
                  have hsub := hb4.sub i (j + n - i) (by omega)
                  have hds := sign_digits (n := n) hp hil
                  have hdl : ((zs.drop j).take n).length = n := by simp; omega
                  rw [hds] at hsub
                  obtain ⟨V, hVe⟩ : ∃ V, V = val 0 ((zs.drop j).take n) := ⟨_, rfl⟩
                  obtain ⟨ds, hdse⟩ : ∃ ds, ds = (zs.drop j).take n := ⟨_, rfl⟩
                  rw [← hdse] at hVe hsub hdec hdl
                  rw [← hdse] at hV0 hVL ⊢
                  rw [← hVe] at hV0 hVL hdec ⊢
                  have hij : (i : Int) ≤ (j : Int) + n := by omega
                  have hjc : (j : Int) + n ≤ (cap' : Int) := by omega
                  have hci : ¬ cap' = i := by omega
                  have hwr : IntKind.i64.wrap ((j : Int) + n) = (j : Int) + n := by rw [IntKind.wrap_i64]; omega
                  have hlen1 : j + n - i = n + 1 := by omega
                  have HD1 : Hid _ := hdl
                  have HD2 : Hid _ := hlen1
                  clear hds hVe hdse hji hdl hlen1
                  rcases hcm with rfl | rfl
                  all_goals
                    go_wp2_with fail
                    go_region_held3 (fun _ => True) (trivial) (first
                      | (go_at_call 27; refine (itoa_neg V _ hV0 (by omega)).mono ?_; rintro x w2 ⟨r, l, rfl, ho2, hd2, hb2⟩; obtain ⟨a2, c2, rfl, _, hby2⟩ := ho2.bytes (Nat.le_refl _); obtain rfl := dec_unique hd2 hdec)
                      | (go_at_call 15; refine (equal_at a2 _ _ _ c2 _ w2.heap.size (45 :: l) _ ?_ ?_ hby2 ?_).mono ?_; (have h1 := HD1.out; have h2 := HD2.out; simp only [List.length_cons]; omega); (have h2 := HD2.out; omega); exact (Bytes.later (w := wc.drew) hsub hb2 hb2.size).cast (by omega); rintro x w4 ⟨rfl, q, rfl⟩))
                    all_goals
                      go_wp2_with fail
                      go_ret
                      exact ⟨rfl, below_drewN (hB4.drew.trans (hb2.mono hB4.size)) q⟩
              · as_aux_lemma =>
                  obtain ⟨hn1, hdec⟩ := can_dec hp HC.out
                  have hji := HJ4.out rfl
                  have hil : i < zs.length := by omega
                  obtain ⟨b, off, rfl, hbW, _⟩ : ∃ b off, a' = some ⟨b, off, none⟩ ∧ b < wc.heap.size ∧ ∀ i, i < len → wc.cell? ⟨b, off + i, none⟩ = some (.int .u8 (zs.getD i 0)) := by
                    rcases hb4.2 with h0 | h
                    · omega
                    · exact h
                  have hsub := hb4.sub i (j + n - i) (by omega)
                  have hds : (zs.drop i).take (j + n - i) = (zs.drop j).take n := by rw [hji, show i + n - i = n by omega]
                  have hdl : ((zs.drop j).take n).length = n := by simp; omega
                  rw [hds] at hsub
                  obtain ⟨V, hVe⟩ : ∃ V, V = val 0 ((zs.drop j).take n) := ⟨_, rfl⟩
                  obtain ⟨ds, hdse⟩ : ∃ ds, ds = (zs.drop j).take n := ⟨_, rfl⟩
                  rw [← hdse] at hVe hsub hdec hdl
                  rw [← hdse] at hVL ⊢
                  rw [← hVe] at hVL hdec ⊢
                  have hij : (i : Int) ≤ (j : Int) + n := by omega
                  have hjc : (j : Int) + n ≤ (cap' : Int) := by omega
                  have hci : ¬ cap' = i := by omega
                  have hwr : IntKind.i64.wrap ((j : Int) + n) = (j : Int) + n := by rw [IntKind.wrap_i64]; omega
                  have hlen1 : j + n - i = n := by omega
                  have HD1 : Hid _ := hdl
                  have HD2 : Hid _ := hlen1
                  clear hds hVe hdse hji hdl hlen1
                  go_wp2_with fail
                  go_region_held3 (fun _ => True) (trivial) (first
                    | (go_at_call 27; refine (itoa_pos V _ (by omega)).mono ?_; rintro x w2 ⟨r, l, rfl, ho2, hd2, hb2⟩; obtain ⟨a2, c2, rfl, _, hby2⟩ := ho2.bytes (Nat.le_refl _); obtain rfl := dec_unique hd2 hdec)
                    | (go_at_call 15; refine (equal_at a2 _ _ _ c2 _ w2.heap.size l _ ?_ ?_ hby2 ?_).mono ?_; (have h1 := HD1.out; have h2 := HD2.out; omega); (have h2 := HD2.out; omega); exact (Bytes.later (w := wc.drew) hsub hb2 hb2.size).cast (by omega); rintro x w4 ⟨rfl, q, rfl⟩))
                  all_goals
                    go_wp2_with fail
                    go_ret
                    exact ⟨rfl, below_drewN (hB4.drew.trans (hb2.mono hB4.size)) q⟩
              · go_wp2_with fail
                go_ret
                exact ⟨rfl, hB4⟩
              · cases neg
                · go_wp2_with fail
                  go_ret
                  exact ⟨ret_true (decide_eq_true (by omega)), hB4⟩
                · go_wp2_with fail
                  go_ret
                  exact ⟨ret_true (decide_eq_true (by omega)), hB4⟩
              · go_wp2_with fail
                go_ret
                exact ⟨ret_true (decide_eq_true (by omega)), hB4⟩
end Go.Proofs.Qxb6603067a
