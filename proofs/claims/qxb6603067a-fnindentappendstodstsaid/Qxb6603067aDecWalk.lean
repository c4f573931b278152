/-
  THE WALKS of zzUtoaB1 (26), zzItoaB1 (27), zzCompareDecimalB1 (25), zzEqualBytesB1 (15).
-/
import Derived.Test.Qxb6603067aKit
import Derived.Test.Qxb6603067aIntWalk
import Derived.WalkLawsBesides
import Derived.BigQuiet
import Derived.Deep.QuietTactic
namespace Go.Proofs.Qxb6603067a
open Go.RowKit
open Plain

/-- the writer's array: nought where nothing is written, then the digits -/
def Buf (w : World) (g k : Nat) (acc : List Int) : Prop := k + acc.length = 20 ∧ w.heap[g]? = some (.cells ((List.replicate k (0 : Int) ++ acc).map (Value.int .u8)).toArray 67 (0, 0))

theorem Buf.cell {w : World} {g k : Nat} {acc : List Int} (h : Buf w g k acc) {i : Nat} (hi : i < 20) : w.cell? ⟨g, i, none⟩ = some (.int .u8 ((List.replicate k (0 : Int) ++ acc).getD i 0)) := by
  have hl : (List.replicate k (0 : Int) ++ acc).length = 20 := by have := h.1; simp; omega
  simp only [World.cell?, h.2]
  simp only [List.getElem?_toArray, List.getElem?_map, Option.isSome_none, Bool.false_eq_true, if_false]
  rw [List.getElem?_eq_getElem (show i < (List.replicate k (0 : Int) ++ acc).length by omega)]
  simp [List.getD_eq_getElem?_getD, List.getElem?_eq_getElem (show i < (List.replicate k (0 : Int) ++ acc).length by omega)]

theorem Buf.free {w : World} {g k : Nat} {acc : List Int} (h : Buf w g k acc) (i : Nat) : w.frozen? ⟨g, i, none⟩ = false := by
  simp [World.frozen?, h.2]

theorem Buf.put {w : World} {g k : Nat} {acc : List Int} (h : Buf w g (k + 1) acc) (b : Int) : Buf (w.setCell ⟨g, k, none⟩ (.int .u8 b)) g k (b :: acc) := by
  obtain ⟨h1, h2⟩ := h
  refine ⟨by simp; omega, ?_⟩
  have hlt := (Array.getElem?_eq_some_iff.1 h2).1
  have hv := (Array.getElem?_eq_some_iff.1 h2).2
  simp only [World.setCell]
  rw [Array.getElem?_eq_getElem (by simpa using hlt), Array.getElem_modify]
  simp only [if_true, hv, Option.isSome_none, Bool.false_eq_true, if_false]
  congr 2
  apply Array.toList_inj.1
  simp only [Array.toList_setIfInBounds]
  rw [List.replicate_succ', ← List.map_set]
  congr 1
  rw [List.append_assoc, List.set_append_right _ _ (by simp)]
  simp

theorem Buf.bytes {w : World} {g k B : Nat} {acc : List Int} (h : Buf w g k acc) (hB : g < B) : Bytes w B (some ⟨g, k, none⟩) acc.length acc := by
  refine ⟨rfl, .inr ⟨g, k, rfl, hB, fun i hi => ?_⟩⟩
  rw [h.cell (by have := h.1; omega)]
  simp [List.getD_eq_getElem?_getD, List.getElem?_append_right]

theorem Buf.later {w w' : World} {g k B : Nat} {acc : List Int} (h : Buf w g k acc) (hb : Below B w w') (hg : g < B) : Buf w' g k acc := ⟨h.1, (hb.block g hg).trans h.2⟩

theorem slice_buf (g k : Nat) (hk : k < 20) (wx : World) :
    (Instr.sliceAt 67 (.pointer (some ⟨g, 0, none⟩)) (some (.int .i64 k)) none none).run Try.prog wx = .ok (.slice (some ⟨g, k, none⟩) (20 - k) (20 - k)) wx := by
  have hal : Try.prog.arrayLen 67 = 20 := by kernel_rfl
  have hel : Try.prog.elem 67 = 5 := by kernel_rfl
  obtain ⟨i, hi, _, hz1, _⟩ := info_parts Try.info5
  rw [run_sliceAt_array_l wx 67 ⟨g, 0, none⟩ (by rw [hal, hel]; exact Try.underlying67) .i64 k (by omega) (by rw [hal]; omega), hal, hel]
  simp [sizeOf, typeInfo, hi, Result.andThen, slicedAt, hz1, show ¬ 20 = k by omega, Addr.add]
  intro h; simp [h]

set_option maxRecDepth 10000 in
set_option maxHeartbeats 400000 in
theorem utoa_any (u : Nat) (w : World) (hu : u ≤ 18446744073709551615) :
    Calls Try.prog 26 #[.int .u64 u] w fun x w' => ∃ v l, x = .returned v ∧ Own w' w.heap.size v l ∧ IsDec l u ∧ Below w.heap.size w w' := by
  go_enter Try.func26, Try.ntmps26
  go_wp2
  go_loopw [0, 4] (fun t i wr => ∃ (u' k : Nat) (acc : List Int), t = .int .u64 u' ∧ i = .int .i64 k ∧ u' ≤ 18446744073709551615 ∧ 1 ≤ k ∧ k ≤ 20 ∧ Half u u' acc ∧ Buf wr w.heap.size k acc ∧ Below w.heap.size w wr ∧ w.heap.size < wr.heap.size)
    (fun _ i _ => (intOf i).toNat)
  case atStart =>
    exact ⟨u, 20, [], rfl, rfl, hu, by omega, by omega, half_start u, ⟨rfl, heap_alloc_new w _⟩, (Below.refl _ _).alloc (Nat.le_refl _) _, by simp⟩
  case round =>
    obtain ⟨u', k, acc, rfl, rfl, hu', hk1, hk2, hh, hbuf, hbel, hsz⟩ := hrel
    obtain ⟨k, rfl⟩ : ∃ k', k = k' + 1 := ⟨k - 1, by omega⟩
    have hc := hbuf.cell (show k < 20 by omega)
    have hf := hbuf.free k
    by_cases h0 : u' / 10 = 0
    · have H0 : Hid (u' / 10 = 0) := h0
      have hq : ((u' : Int) / 10 == 0) = true := by simp; omega
      clear h0
      have hsl := slice_buf w.heap.size k (by omega)
      have hD := half_end hh H0.out
      have hbuf' : Buf (wr.setCell ⟨w.heap.size, k, none⟩ (.int .u8 (48 + ↑u' % 10))) w.heap.size k ((48 + ((u' % 10 : Nat) : Int)) :: acc) := by
        have := hbuf.put (48 + ((u' % 10 : Nat) : Int))
        simpa using this
      have hlenD : ((48 + ((u' % 10 : Nat) : Int)) :: acc).length = 20 - k := by have := hbuf'.1; omega
      obtain ⟨D, hDe⟩ : ∃ D, D = (48 + ((u' % 10 : Nat) : Int)) :: acc := ⟨_, rfl⟩
      rw [← hDe] at hD hbuf' hlenD
      clear hDe
      have hbel' : Below w.heap.size w (wr.setCell ⟨w.heap.size, k, none⟩ (.int .u8 (48 + ↑u' % 10))) := hbel.setCell (Nat.le_refl _) _
      have hsz' : w.heap.size < (wr.setCell ⟨w.heap.size, k, none⟩ (.int .u8 (48 + ↑u' % 10))).heap.size := by simpa using hsz
      go_wp2_with (first
        | (at_make; refine wpList_make_room rfl _ _ rfl _ _ _ (20 - k) rfl rfl (by omega) (by omega) w.heap.size ?_ ?_; exact Nat.le_of_lt hsz'; intro w2 ho2 hb2; simp at ho2)
        | (at_builtin; refine wpList_append_bytes rfl _ _ rfl w.heap.size _ [] rfl ho2 (some ⟨w.heap.size, k, none⟩) (20 - k) (20 - k) D rfl w2.heap.size ?_ ?_ ?_ ?_ ?_; rw [← hlenD]; exact (hbuf'.later hb2 hsz').bytes (Nat.lt_of_lt_of_le hsz' hb2.size); simp; simp; omega; exact Nat.le_trans (Nat.le_of_lt hsz') hb2.size; intro v3 w3 ho3 hg3)
        )
      go_ret
      exact ⟨v3, D, rfl, ho3, hD, (hbel'.trans (hb2.mono (Nat.le_of_lt hsz'))).grown hg3 (Nat.le_trans (Nat.le_of_lt hsz') hb2.size) (fun q hq => (ho2.lt q hq).1)⟩
    · have hh' := half_step hh (by omega)
      have hlen := half_len hh' (by omega)
      have hq : ((u' : Int) / 10 == 0) = false := by simp; omega
      clear h0
      go_wp2
      go_roundw
      case rel => exact ⟨u' / 10, k, _, by go_num, by go_num, by omega, by have := hbuf.1; simp at hlen; omega, by omega, hh', by simpa using hbuf.put (48 + ((u' % 10 : Nat) : Int)), hbel.setCell (Nat.le_refl _) _, by simpa using hsz⟩
      case measure => simp [intOf]

theorem half_bound {l : List Int} {v : Nat} (h : IsDec l v) (hv : v ≤ 9223372036854775808) : l.length ≤ 20 := by
  apply Classical.byContradiction
  intro hc
  match l, h, hc with
  | [], h, hc => simp at hc
  | y :: ys, h, hc =>
    have hl := h.lead (by simp at hc ⊢; omega)
    have hy := h.dig y (by simp)
    simp at hl
    have h2 := val_ge ys (dv y)
    have h3 : val (dv y) ys = v := by have := h.val; simpa [val] using this
    simp at hc
    have h4 : 10 ^ 20 ≤ 10 ^ ys.length := Nat.pow_le_pow_right (by omega) (by omega)
    have h5 : 1 * 10 ^ ys.length ≤ dv y * 10 ^ ys.length := Nat.mul_le_mul_right _ (by unfold dv; omega)
    have h6 : (10 : Nat) ^ 20 = 100000000000000000000 := by decide
    omega

theorem itoa_pos (v : Nat) (w : World) (hv : v ≤ 9223372036854775807) :
    Calls Try.prog 27 #[.int .i64 v] w fun x w' => ∃ r l, x = .returned r ∧ Own w' w.heap.size r l ∧ IsDec l v ∧ Below w.heap.size w w' := by
  go_enter Try.func27, Try.ntmps27
  go_wp2_with (go_at_call 26; refine (utoa_any v _ (by omega)).mono ?_; rintro x w1 ⟨r, l, rfl, ho, hd, hb⟩)
  go_ret
  exact ⟨r, l, rfl, ho, hd, hb⟩

theorem itoa_neg (v : Nat) (w : World) (hv0 : 0 < v) (hv : v ≤ 9223372036854775808) :
    Calls Try.prog 27 #[.int .i64 (-(v : Int))] w fun x w' => ∃ r l, x = .returned r ∧ Own w' w.heap.size r (45 :: l) ∧ IsDec l v ∧ Below w.heap.size w w' := by
  have hw : IntKind.u64.wrap (-IntKind.u64.wrap (-(v : Int))) = (v : Int) := by
    rw [IntKind.wrap_u64, IntKind.wrap_u64]; omega
  have ho1 : Own (w.alloc (.cells #[.int .u8 45] 5)) w.heap.size (.slice (some ⟨w.heap.size, 0, none⟩) 1 1) [45] :=
    World.ownsRow_lit w #[.int .u8 45] 1 (Nat.le_refl _) (by decide) rfl
  have hb1 : Below w.heap.size w (w.alloc (.cells #[.int .u8 45] 5)) := (Below.refl _ _).alloc (Nat.le_refl _) _
  have hs1 : (w.alloc (.cells #[.int .u8 45] 5)).heap.size = w.heap.size + 1 := by simp
  go_enter Try.func27, Try.ntmps27
  go_wp2_with (first
    | (go_at_call 26; refine (utoa_any v _ (by omega)).mono ?_; rintro x w2 ⟨r, l, rfl, ho2, hd, hb2⟩; obtain ⟨a2, c2, rfl, hnil2, hby2⟩ := ho2.bytes (Nat.le_refl _); have hl20 := half_bound hd hv; have ho3 := ho1.later hb2 (Nat.le_refl _); have hs2 := hb2.size)
    | (at_builtin; refine wpList_append_bytes rfl _ _ rfl w.heap.size _ [45] rfl ho3 a2 l.length c2 l rfl w2.heap.size hby2 hnil2 (by simp; omega) (by omega) ?_; intro v3 w3 ho4 hg4))
  go_ret
  exact ⟨v3, l, rfl, ho4, hd, (hb1.trans (hb2.mono (by omega))).grown hg4 (by omega) (fun q hq => (ho3.lt q hq).1)⟩

/-- two slices of bytes with the same number of elements, place by place -/
theorem pair_cells {w : World} {B : Nat} {a b : Option Addr} {n : Nat} {xs ys : List Int} (ha : Bytes w B a n xs) (hb : Bytes w B b n ys) (hn : 0 < n) :
    ∃ b1 o1 b2 o2, a = some ⟨b1, o1, none⟩ ∧ b = some ⟨b2, o2, none⟩ ∧ (∀ i, i < n → w.cell? ⟨b1, o1 + i, none⟩ = some (.int .u8 (xs.getD i 0))) ∧ (∀ i, i < n → w.cell? ⟨b2, o2 + i, none⟩ = some (.int .u8 (ys.getD i 0))) := by
  rcases ha.2 with h | ⟨b1, o1, rfl, _, h1⟩
  · omega
  · rcases hb.2 with h | ⟨b2, o2, rfl, _, h2⟩
    · omega
    · exact ⟨b1, o1, b2, o2, rfl, rfl, h1, h2⟩

theorem lex_step {xs ys : List Int} {k : Nat} (h1 : k < xs.length) (h2 : k < ys.length) : lex (xs.drop k) (ys.drop k) = if xs[k] = ys[k] then lex (xs.drop (k + 1)) (ys.drop (k + 1)) else if xs[k] < ys[k] then -1 else 1 := by
  rw [List.drop_eq_getElem_cons h1, List.drop_eq_getElem_cons h2]; rfl

set_option maxRecDepth 10000 in
theorem cmp_diff (a b : Option Addr) (n m c1 c2 : Nat) (w : World) (_hn : n ≤ 1048576) (_hm : m ≤ 1048576) (hnm : n ≠ m) :
    Calls Try.prog 25 #[.slice a n c1, .slice b m c2] w fun x w' => x = .returned (.int .i64 (if n < m then -1 else 1)) ∧ w' = w := by
  have hne : ((n : Int) != (m : Int)) = true := by simp; omega
  by_cases hlt : n < m
  · go_enter Try.func25, Try.ntmps25
    go_wp2
    go_ret
    exact ⟨rfl, rfl⟩
  · have hge : m < n := by omega
    go_enter Try.func25, Try.ntmps25
    go_wp2
    go_ret
    exact ⟨rfl, rfl⟩

set_option maxRecDepth 10000 in
set_option maxHeartbeats 400000 in
theorem cmp_same (a b : Option Addr) (n c1 c2 B : Nat) (xs ys : List Int) (w : World) (hn : n ≤ 1048576) (ha : Bytes w B a n xs) (hb : Bytes w B b n ys) :
    Calls Try.prog 25 #[.slice a n c1, .slice b n c2] w fun x w' => x = .returned (.int .i64 (lex xs ys)) ∧ ∃ q, w' = w.drewN q := by
  have hlx := ha.1
  have hly := hb.1
  go_enter Try.func25, Try.ntmps25
  go_wp2
  go_loopw [5] (fun i wr => ∃ k q : Nat, i = .int .i64 k ∧ k ≤ n ∧ wr = w.drewN q ∧ Hid (lex xs ys = lex (xs.drop k) (ys.drop k))) (fun i _ => n - (intOf i).toNat)
  case atStart => exact ⟨0, 0, rfl, Nat.zero_le _, rfl, rfl⟩
  case round =>
    obtain ⟨k, q, rfl, hk, rfl, hid⟩ := hrel
    by_cases hlt : k < n
    · obtain ⟨b1, o1, b2, o2, rfl, rfl, h1, h2⟩ := pair_cells ha hb (by omega)
      have g1 := h1 k hlt
      have g2 := h2 k hlt
      have hxk : k < xs.length := by omega
      have hyk : k < ys.length := by omega
      have st := lex_step hxk hyk
      have HS : Hid _ := st
      clear h1 h2 st
      by_cases he : xs[k] = ys[k]
      · have he1 : (xs[k] != ys[k]) = false := by simp [he]
        have G : Hid (lex xs ys = lex (xs.drop (k + 1)) (ys.drop (k + 1))) := by
          have h' := HS.out
          rw [if_pos he] at h'
          exact hid.out.trans h'
        clear he
        go_wp2
        go_quiet (fail)
        go_wp2
        go_roundw
        case rel => exact ⟨k + 1, _, by go_num, by omega, rfl, G⟩
        case measure => simp [intOf]; omega
      · have he1 : (xs[k] != ys[k]) = true := by simpa using he
        by_cases hl : xs[k] < ys[k]
        · have G : Hid (lex xs ys = -1) := by
            have h' := HS.out
            rw [if_neg he, if_pos hl] at h'
            exact hid.out.trans h'
          clear he
          go_wp2
          go_quiet (fail)
          go_wp2
          go_quiet (fail)
          go_wp2
          go_ret
          exact ⟨ret_int G.out.symm, _, by rw [drewN_two, drewN_two]⟩
        · have G : Hid (lex xs ys = 1) := by
            have h' := HS.out
            rw [if_neg he, if_neg hl] at h'
            exact hid.out.trans h'
          clear he
          go_wp2
          go_quiet (fail)
          go_wp2
          go_quiet (fail)
          go_wp2
          go_ret
          exact ⟨ret_int G.out.symm, _, by rw [drewN_two, drewN_two]⟩
    · have G : Hid (lex xs ys = 0) := by
        have h' := hid.out
        rw [List.drop_eq_nil_of_le (show xs.length ≤ k by omega)] at h'
        exact h'.trans rfl
      go_wp2
      go_ret
      exact ⟨ret_int G.out.symm, _, rfl⟩

theorem cmp_any (a b : Option Addr) (n m c1 c2 B : Nat) (xs ys : List Int) (w : World) (hn : n ≤ 1048576) (hm : m ≤ 1048576) (ha : Bytes w B a n xs) (hb : Bytes w B b m ys) :
    Calls Try.prog 25 #[.slice a n c1, .slice b m c2] w fun x w' => x = .returned (.int .i64 (cmpD xs ys)) ∧ ∃ q, w' = w.drewN q := by
  by_cases h : n = m
  · subst h
    refine (cmp_same a b n c1 c2 B xs ys w hn ha hb).mono ?_
    rintro x w' ⟨rfl, h⟩
    exact ⟨by unfold cmpD; rw [if_pos (ha.1.trans hb.1.symm)], h⟩
  · refine (cmp_diff a b n m c1 c2 w hn hm h).mono ?_
    rintro x w' ⟨rfl, rfl⟩
    refine ⟨?_, 0, rfl⟩
    unfold cmpD
    rw [ha.1, hb.1, if_neg h]

set_option maxRecDepth 10000 in
set_option maxHeartbeats 400000 in
theorem equal_same (a b : Option Addr) (n c1 c2 B : Nat) (xs : List Int) (w : World) (hn : n ≤ 140737488355328) (ha : Bytes w B a n xs) (hb : Bytes w B b n xs) :
    Calls Try.prog 15 #[.slice a n c1, .slice b n c2] w fun x w' => x = .returned (.bool true) ∧ ∃ q, w' = w.drewN q := by
  have hlx := ha.1
  go_enter Try.func15, Try.ntmps15
  go_wp2
  go_loopw [5] (fun i wr => ∃ k q : Nat, i = .int .i64 k ∧ k ≤ n ∧ wr = w.drewN q) (fun i _ => n - (intOf i).toNat)
  case atStart => exact ⟨0, 0, rfl, Nat.zero_le _, rfl⟩
  case round =>
    obtain ⟨k, q, rfl, hk, rfl⟩ := hrel
    by_cases hlt : k < n
    · obtain ⟨b1, o1, b2, o2, rfl, rfl, h1, h2⟩ := pair_cells ha hb (by omega)
      have g1 := h1 k hlt
      have g2 := h2 k hlt
      have hxk : k < xs.length := by omega
      clear h1 h2
      go_wp2
      go_quiet (fail)
      go_wp2
      go_roundw
      case rel => exact ⟨k + 1, _, by go_num, by omega, rfl⟩
      case measure => simp [intOf]; omega
    · go_wp2
      go_ret
      exact ⟨rfl, _, rfl⟩

end Go.Proofs.Qxb6603067a
