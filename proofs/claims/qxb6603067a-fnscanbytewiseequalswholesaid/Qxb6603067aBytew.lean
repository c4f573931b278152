/-
  THE WALK of FnScanBytewiseEqualsWhole (function 6).
-/
import Derived.Test.Qxb6603067aPiece
namespace Go.Proofs.Qxb6603067a
open Go.RowKit
open Plain

/-- too long: 'true' at once -/
theorem bytew_long (d : Int) (s e : Bool) (a : Option Addr) (len cap : Nat) (w : World) (hm : len ≤ maxLen) (hlen : 1048576 < len) :
    Calls Try.prog 6 #[.int .i64 d, .bool s, .bool e, .slice a len cap] w fun x w' => x = .returned (.bool true) ∧ w' = w := by
  unfold maxLen at hm
  go_enter Try.func6, Try.ntmps6
  go_wp2
  go_ret
  exact ⟨rfl, rfl⟩

theorem sc_one (d : Int) (s e : Bool) (b : Int) : sc [b] d s e = ⟨1, (b1 d s e b).ended, (b1 d s e b).d, (b1 d s e b).s, (b1 d s e b).e⟩ := by
  show (if (b1 d s e b).ended then (⟨1, true, (b1 d s e b).d, (b1 d s e b).s, (b1 d s e b).e⟩ : Ans) else (sc [] (b1 d s e b).d (b1 d s e b).s (b1 d s e b).e).more 1) = _
  cases h : (b1 d s e b).ended
  · simp [sc, scan, Ans.more]
  · simp

theorem one_byte (w : World) (B g : Nat) (zs : List Int) (k : Nat) (h : Row w g zs) (hB : g < B) (hk : k < zs.length) : Bytes w B (some ⟨g, k, none⟩) 1 [zs[k]] := by
  have := h.bytes hB k 1 (by omega)
  rwa [show (zs.drop k).take 1 = [zs[k]] by rw [List.drop_eq_getElem_cons hk]; rfl] at this

set_option maxRecDepth 10000 in
set_option maxHeartbeats 1000000 in
theorem bytew_main (d : Int) (s e : Bool) (a : Option Addr) (len cap : Nat) (zs : List Int) (w : World) (hlen : len ≤ 1048576) (hb : Bytes w w.heap.size a len zs)
    (ha : a.isNone = false) :
    Calls Try.prog 6 #[.int .i64 d, .bool s, .bool e, .slice a len cap] w fun x w' => x = .returned (.bool true) ∧ Below w.heap.size w w' := by
  have hnil := run_neq_slice_nil_any (P := Try.prog) w 22 5 a len cap 0 0 Try.underlying22
  rw [ha] at hnil
  have hl := hb.1
  obtain ⟨n, en, dx, sx, ex, h0⟩ : ∃ n en dx sx ex, sc zs d s e = ⟨n, en, dx, sx, ex⟩ := ⟨_, _, _, _, _, rfl⟩
  have hn : n ≤ len := by
    have := scan_le up dn zs d s e
    rw [show scan up dn zs d s e = _ from h0] at this
    simp at this; omega
  have H0 : Hid _ := h0
  clear h0
  go_enter Try.func6, Try.ntmps6
  go_wp2_with (first
    | (at_make; refine wpList_make_bytes rfl _ _ rfl _ _ _ _ len rfl rfl (by omega) (by omega) (by omega) ?_; intro w1 hs1 hr1 hb1)
    | (refine wpList_copy_bytes rfl (.tmp 38) (.tmp 39) rfl w.heap.size len _ _ _ _ zs rfl rfl hr1 (by simp) w.heap.size (hb.later hb1 (Nat.le_refl _)) ?_; intro w2 hr2 hb2)
    | (go_at_call 20; go_in)
    | (go_at_call 19; refine (zzscan_at (cap := len) (w := w2) H0.out n (by omega) hlen (whole w2 _ _ zs len hr2 hr2.lt hl)).mono ?_; rintro x w3 ⟨rfl, hb3⟩)
  )
  have hB3 : Below w.heap.size w w3 := four hb1 hb2 hb3 (Below.refl _ _) (Below.refl _ _)
  have hr3 := hr2.later hb3 hr2.lt
  clear hs1 hr1 hb1 hr2 hb2 hb3
  go_loopw [15, 16, 17, 18] (fun td ts te i wr => ∃ (k : Nat) (d' : Int) (s' e' : Bool), k ≤ len ∧ i = .int .i64 k ∧ td = .int .i64 d' ∧ ts = .bool s' ∧ te = .bool e' ∧ Row wr w.heap.size zs ∧ Below w.heap.size w wr ∧ Hid (sc zs d s e = (sc (zs.drop k) d' s' e').more k))
    (fun _ _ _ i _ => len - (intOf i).toNat)
  case atStart => exact ⟨0, d, s, e, Nat.zero_le _, rfl, rfl, rfl, rfl, hr3, hB3, rfl⟩
  case round =>
    obtain ⟨k, d', s', e', hk, rfl, rfl, rfl, rfl, hr, hbel, hid⟩ := hrel
    clear hr3 hB3
    by_cases hlt : k < len
    · have hlz : k < zs.length := by omega
      obtain ⟨en1, d1, s1, e1, h1⟩ : ∃ en1 d1 s1 e1, b1 d' s' e' zs[k] = ⟨en1, d1, s1, e1⟩ := ⟨_, _, _, _, rfl⟩
      have H1 : Hid (sc [zs[k]] d' s' e' = ⟨1, en1, d1, s1, e1⟩) := by
        have := sc_one d' s' e' zs[k]
        rw [h1] at this
        exact this
      cases en1
      · have G := goes hid hlz h1
        clear h1
        go_wp2_with (go_at_call 19; refine (zzscan_at (w := wr) H1.out 1 (by omega) (by omega) (one_byte wr _ _ zs k hr hr.lt hlz)).mono ?_; rintro x w4 ⟨rfl, hb4⟩)
        go_roundw
        case rel => exact ⟨k + 1, _, _, _, by omega, by go_num, rfl, rfl, rfl, hr.later hb4 hr.lt, hbel.trans (hb4.mono hbel.size), G⟩
        case measure => simp [intOf]; omega
      · have E := ends hid hlz h1
        obtain ⟨rfl, rfl, rfl, rfl, rfl⟩ : n = k + 1 ∧ en = true ∧ dx = d1 ∧ sx = s1 ∧ ex = e1 := by
          have e0 := H0.out.symm.trans E
          simpa using e0
        clear h1
        have HE : Hid _ := E
        clear E
        go_wp2_with (go_at_call 19; refine (zzscan_at (w := wr) H1.out 1 (by omega) (by omega) (one_byte wr _ _ zs k hr hr.lt hlz)).mono ?_; rintro x w4 ⟨rfl, hb4⟩)
        go_ret
        exact ⟨rfl, hbel.trans (hb4.mono hbel.size)⟩
    · have hx := done hid (by omega)
      obtain ⟨rfl, rfl, rfl, rfl, rfl⟩ : n = k ∧ en = false ∧ dx = d' ∧ sx = s' ∧ ex = e' := by
        have e0 := H0.out.symm.trans hx
        simpa using e0
      obtain rfl : n = len := by omega
      clear hx
      go_wp2
      go_ret
      exact ⟨rfl, hbel⟩

set_option maxRecDepth 10000 in
set_option maxHeartbeats 1000000 in
theorem bytew_nil (d : Int) (s e : Bool) (w : World) :
    Calls Try.prog 6 #[.int .i64 d, .bool s, .bool e, .slice none 0 0] w fun x w' => x = .returned (.bool true) ∧ Below w.heap.size w w' := by
  have hnil := run_neq_slice_nil_any (P := Try.prog) w 22 5 none 0 0 0 0 Try.underlying22
  simp only [Option.isNone_none, Bool.not_true] at hnil
  have H1 : Hid (sc [] d s e = ⟨0, false, d, s, e⟩) := rfl
  go_enter Try.func6, Try.ntmps6
  go_wp2_with (first
    | (go_at_call 20; go_in)
    | (go_at_call 19; refine (zzscan_at (a := none) (len := 0) (cap := 0) H1.out 0 (by omega) (by omega) (Bytes.empty _ _ _)).mono ?_; rintro x wn ⟨rfl, hbn⟩)
    )
  go_loopw [15, 16, 17, 18] (fun td ts te i wr => i = .int .i64 0 ∧ td = .int .i64 d ∧ ts = .bool s ∧ te = .bool e ∧ wr = wn) (fun _ _ _ _ _ => 0)
  case atStart => exact ⟨rfl, rfl, rfl, rfl, rfl⟩
  case round =>
    obtain ⟨rfl, rfl, rfl, rfl, rfl⟩ := hrel
    go_wp2
    go_ret
    exact ⟨rfl, hbn⟩
end Go.Proofs.Qxb6603067a
