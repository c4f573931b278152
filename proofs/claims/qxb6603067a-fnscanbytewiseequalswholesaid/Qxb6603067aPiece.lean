import Derived.Test.Qxb6603067aKit
import Derived.WalkLawsBesides
import Derived.Deep.RegionWith
namespace Go.Proofs.Qxb6603067a
open Go.RowKit
open Plain

theorem zzscan_at {a : Option Addr} {len cap : Nat} {zs : List Int} {d : Int} {s e : Bool} {w : World} {n : Nat} {en : Bool} {d' : Int} {s' e' : Bool}
    (h : sc zs d s e = ⟨n, en, d', s', e'⟩) (x : Int) (hx : x = n) (hlen : len ≤ 1048576) (hb : Bytes w w.heap.size a len zs) :
    Calls Try.prog 19 #[.int .i64 d, .bool s, .bool e, .slice a len cap] w fun y w' =>
      y = .returned (.tuple #[.int .i64 x, .bool en, .int .i64 d', .bool s', .bool e']) ∧ Below w.heap.size w w' := by
  refine (zzscan_any a len cap zs d s e w hlen hb).mono ?_
  rintro y w' ⟨rfl, hbel⟩
  rw [h]
  exact ⟨by rw [hx], hbel⟩

/-- too long: 'true' at once -/
theorem piece_long (d : Int) (s e : Bool) (a : Option Addr) (len cap : Nat) (cut : Int) (w : World) (hm : len ≤ maxLen) (hlen : 1048576 < len) :
    Calls Try.prog 5 #[.int .i64 d, .bool s, .bool e, .slice a len cap, .int .i64 cut] w fun x w' => x = .returned (.bool true) ∧ w' = w := by
  unfold maxLen at hm
  go_enter Try.func5, Try.ntmps5
  go_wp2
  go_ret
  exact ⟨rfl, rfl⟩

theorem piece_cut (d : Int) (s e : Bool) (a : Option Addr) (len cap : Nat) (cut : Int) (w : World) (hlen : len ≤ 1048576) (hcut : cut < 0 ∨ (len : Int) < cut) :
    Calls Try.prog 5 #[.int .i64 d, .bool s, .bool e, .slice a len cap, .int .i64 cut] w fun x w' => x = .returned (.bool true) ∧ w' = w := by
  by_cases h : cut < 0
  · go_enter Try.func5, Try.ntmps5
    go_wp2
    go_ret
    exact ⟨rfl, rfl⟩
  · have h2 : (len : Int) < cut := by omega
    clear hcut
    go_enter Try.func5, Try.ntmps5
    go_wp2
    go_ret
    exact ⟨rfl, rfl⟩

theorem whole (w : World) (B g : Nat) (zs : List Int) (len : Nat) (h : Row w g zs) (hB : g < B) (hl : zs.length = len) : Bytes w B (some ⟨g, 0, none⟩) len zs := by
  have := h.bytes hB 0 len (by omega)
  simpa [List.take_of_length_le (show zs.length ≤ len by omega)] using this
theorem front (w : World) (B g : Nat) (zs : List Int) (len c : Nat) (h : Row w g zs) (hB : g < B) (hl : zs.length = len) (hc : c ≤ len) : Bytes w B (some ⟨g, 0, none⟩) c (zs.take c) := by
  simpa using h.bytes hB 0 c (by omega)
theorem back (w : World) (B g : Nat) (zs : List Int) (len c : Nat) (h : Row w g zs) (hB : g < B) (hl : zs.length = len) (hc : c ≤ len) :
    Bytes w B (if len = c then some ⟨g, 0, none⟩ else some ⟨g, c, none⟩) (len - c) (zs.drop c) := by
  by_cases hx : len = c
  · subst hx
    rw [List.drop_eq_nil_of_le (by omega), Nat.sub_self]
    exact Bytes.empty _ _ _
  · rw [if_neg hx]
    have := h.bytes hB c (len - c) (by omega)
    rwa [List.take_of_length_le (by simp; omega)] at this

theorem four {w w1 w2 w3 w4 w5 : World} (h1 : Below w.heap.size w w1) (h2 : Below w.heap.size w1 w2) (h3 : Below w2.heap.size w2 w3) (h4 : Below w3.heap.size w3 w4) (h5 : Below w4.heap.size w4 w5) : Below w.heap.size w w5 := by
  have s1 := h1.size
  have s2 := h2.size
  have s3 := h3.size
  have s4 := h4.size
  exact (((h1.trans h2).trans (h3.mono (by omega))).trans (h4.mono (by omega))).trans (h5.mono (by omega))

set_option maxRecDepth 10000 in
set_option maxHeartbeats 1000000 in
theorem piece_main (d : Int) (s e : Bool) (a : Option Addr) (len cap : Nat) (zs : List Int) (c : Nat) (w : World) (hlen : len ≤ 1048576) (hc : c ≤ len) (hb : Bytes w w.heap.size a len zs)
    (ha : a.isNone = false) :
    Calls Try.prog 5 #[.int .i64 d, .bool s, .bool e, .slice a len cap, .int .i64 c] w fun x w' => x = .returned (.bool true) ∧ Below w.heap.size w w' := by
  have hnil := run_neq_slice_nil_any (P := Try.prog) w 22 5 a len cap 0 0 Try.underlying22
  rw [ha] at hnil
  have hl := hb.1
  obtain ⟨n1, en1, d1, s1, e1, h1⟩ : ∃ n1 en1 d1 s1 e1, sc (zs.take c) d s e = ⟨n1, en1, d1, s1, e1⟩ := ⟨_, _, _, _, _, rfl⟩
  have hap : zs.take c ++ zs.drop c = zs := List.take_append_drop c zs
  have hn1 : n1 ≤ c := by
    have := scan_le up dn (zs.take c) d s e
    rw [show scan up dn (zs.take c) d s e = _ from h1] at this
    simp at this; omega
  cases en1
  · obtain ⟨n2, en2, d2, s2, e2, h2⟩ : ∃ n2 en2 d2 s2 e2, sc (zs.drop c) d1 s1 e1 = ⟨n2, en2, d2, s2, e2⟩ := ⟨_, _, _, _, _, rfl⟩
    have h0 : sc zs d s e = ⟨n2 + c, en2, d2, s2, e2⟩ := by
      have := scan_append_goes up dn (zs.take c) (zs.drop c) d s e
      rw [show scan up dn (zs.take c) d s e = _ from h1, hap] at this
      have := this rfl
      simp only [show scan up dn (zs.drop c) d1 s1 e1 = _ from h2] at this
      rw [show sc zs d s e = _ from this]
      simp [Ans.more]; omega
    have hnc : n1 = c := by
      have := scan_all up dn (zs.take c) d s e
      rw [show scan up dn (zs.take c) d s e = _ from h1] at this
      have := this rfl
      simp at this; omega
    subst hnc
    have hn2 : n2 ≤ len - n1 := by
      have := scan_le up dn (zs.drop n1) d1 s1 e1
      rw [show scan up dn (zs.drop n1) d1 s1 e1 = _ from h2] at this
      simp at this; omega
    have H0 : Hid _ := h0
    have H1 : Hid _ := h1
    have H2 : Hid _ := h2
    clear h0 h1 h2 hap
    go_enter Try.func5, Try.ntmps5
    go_wp2_with (first
      | (at_make; refine wpList_make_bytes rfl _ _ rfl _ _ _ _ len rfl rfl (by omega) (by omega) (by omega) ?_; intro w1 hs1 hr1 hb1)
      | (refine wpList_copy_bytes rfl (.tmp 50) (.tmp 51) rfl w.heap.size len _ _ _ _ zs rfl rfl hr1 (by simp) w.heap.size (hb.later hb1 (Nat.le_refl _)) ?_; intro w2 hr2 hb2)
      | (go_at_call 18; go_in)
      | (go_at_call_of 19 d1; refine (zzscan_at (cap := len - n1) (w := w4) H2.out n2 rfl (Nat.le_trans (Nat.sub_le _ _) hlen) (back w4 _ _ zs len n1 ((hr2.later hb3 hr2.lt).later hb4 (Row.lt (hr2.later hb3 hr2.lt))) (Row.lt ((hr2.later hb3 hr2.lt).later hb4 (Row.lt (hr2.later hb3 hr2.lt)))) hl hc)).mono ?_; rintro x w5 ⟨rfl, hb5⟩)
      | (go_at_call_of 19 n1; refine (zzscan_at (cap := len) (w := w3) H1.out n1 (by omega) (by omega) (front w3 _ _ zs len n1 (hr2.later hb3 hr2.lt) (Row.lt (hr2.later hb3 hr2.lt)) hl hc)).mono ?_; rintro x w4 ⟨rfl, hb4⟩)
      | (go_at_call_of 19 d; refine (zzscan_at (cap := len) (w := w2) H0.out (n1 + n2) (by omega) hlen (whole w2 _ _ zs len hr2 hr2.lt hl)).mono ?_; rintro x w3 ⟨rfl, hb3⟩)
    )
    all_goals
      go_ret
      exact ⟨rfl, four hb1 hb2 hb3 hb4 hb5⟩
  · have h0 : sc zs d s e = ⟨n1, true, d1, s1, e1⟩ := by
      have := scan_append_ended up dn (zs.take c) (zs.drop c) d s e
      rw [show scan up dn (zs.take c) d s e = _ from h1, hap] at this
      exact this rfl
    have H0 : Hid _ := h0
    have H1 : Hid _ := h1
    clear h0 h1 hap
    go_enter Try.func5, Try.ntmps5
    go_wp2_with (first
      | (at_make; refine wpList_make_bytes rfl _ _ rfl _ _ _ _ len rfl rfl (by omega) (by omega) (by omega) ?_; intro w1 hs1 hr1 hb1)
      | (refine wpList_copy_bytes rfl (.tmp 50) (.tmp 51) rfl w.heap.size len _ _ _ _ zs rfl rfl hr1 (by simp) w.heap.size (hb.later hb1 (Nat.le_refl _)) ?_; intro w2 hr2 hb2)
      | (go_at_call 18; go_in)
      | (go_at_call_of 19 c; refine (zzscan_at (cap := len) (w := w3) H1.out n1 (by omega) (by omega) (front w3 _ _ zs len c (hr2.later hb3 hr2.lt) (Row.lt (hr2.later hb3 hr2.lt)) hl hc)).mono ?_; rintro x w4 ⟨rfl, hb4⟩)
      | (go_at_call_of 19 d; refine (zzscan_at (cap := len) (w := w2) H0.out n1 (by omega) hlen (whole w2 _ _ zs len hr2 hr2.lt hl)).mono ?_; rintro x w3 ⟨rfl, hb3⟩)
    )
    all_goals
      go_ret
      exact ⟨rfl, four hb1 hb2 hb3 hb4 (Below.refl _ _)⟩

set_option maxRecDepth 10000 in
set_option maxHeartbeats 1000000 in
theorem piece_nil (d : Int) (s e : Bool) (w : World) :
    Calls Try.prog 5 #[.int .i64 d, .bool s, .bool e, .slice none 0 0, .int .i64 0] w fun x w' => x = .returned (.bool true) ∧ Below w.heap.size w w' := by
  have hnil := run_neq_slice_nil_any (P := Try.prog) w 22 5 none 0 0 0 0 Try.underlying22
  simp only [Option.isNone_none, Bool.not_true] at hnil
  have H1 : Hid (sc [] d s e = ⟨0, false, d, s, e⟩) := rfl
  go_enter Try.func5, Try.ntmps5
  go_wp2_with (first
    | (go_at_call 18; go_in)
    | (go_at_call 19; refine (zzscan_at (a := none) (len := 0) (cap := 0) H1.out 0 (by omega) (by omega) (Bytes.empty _ _ _)).mono ?_; rintro x wn ⟨rfl, hbn⟩)
    )
  go_ret
  rename_i wa hba wb hbb
  exact ⟨rfl, four (Below.refl _ _) (Below.refl _ _) hba hbb hbn⟩

end Go.Proofs.Qxb6603067a
