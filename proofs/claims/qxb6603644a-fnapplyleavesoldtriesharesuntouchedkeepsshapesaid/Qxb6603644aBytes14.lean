/-
  THE WALK of zzBytes (14): as that of 5.
-/
import Derived.Test.Qxb6603644aBytes5
namespace Go.Proofs.Qxb6603644a
open Go.RowKit Go.Shelf

set_option maxRecDepth 20000 in
set_option maxHeartbeats 4000000 in
theorem zzBytes14_any (ao1 ao2 : Option Addr) (b1 o1 n1 c1 b2 o2 n2 c2 : Nat) (zs1 zs2 : List Z) (sh : Value) (w : World) (h1 : n1 = 0 ∨ ao1 = some ⟨b1, o1, none⟩) (h2 : n2 = 0 ∨ ao2 = some ⟨b2, o2, none⟩) (hn1 : zs1.length = n1) (hn2 : zs2.length = n2) (hr1 : ZRow w b1 o1 zs1) (hr2 : ZRow w b2 o2 zs2) :
    Calls Try.prog 14 #[.slice ao1 n1 c1, .slice ao2 n2 c2, sh] w fun x w' => Says True x ∧ w' = w := by
  refine calls_of_wp Try.func14 rfl ?_
  have hR : Rets (bodyPost Try.prog Try.f14 (fun x w' => Says True x ∧ w' = w)) w := fun a b _ hd he =>
    bodyPost_ret (v := .bool b) (he ▸ results_tmp rfl _ _ _) hd ⟨⟨b, rfl, fun _ => trivial⟩, rfl⟩
  obtain ⟨Q, hQ⟩ : ∃ Q, bodyPost Try.prog Try.f14 (fun x w' => Says True x ∧ w' = w) = Q := ⟨_, rfl⟩
  rw [hQ] at hR ⊢
  clear hQ
  have h : St (.slice ao1 n1 c1) (.slice ao2 n2 c2) undef undef undef { tmps := #[.slice ao1 n1 c1, .slice ao2 n2 c2, sh] ++ Array.replicate (Try.f14.ntmps - (#[.slice ao1 n1 c1, .slice ao2 n2 c2, sh] : Array Value).size) undef, defers := [] } := by
    rw [Try.ntmps14]
    refine ⟨by simp, rfl, ?_, ?_, ?_, ?_, ?_⟩
    all_goals simp [Act.eval, Array.getD_eq_getD_getElem?]
  generalize ({ tmps := #[.slice ao1 n1 c1, .slice ao2 n2 c2, sh] ++ Array.replicate (Try.f14.ntmps - (#[.slice ao1 n1 c1, .slice ao2 n2 c2, sh] : Array Value).size) undef, defers := [] } : Act) = a at h ⊢
  refine wp_seq (set_six h fun a h _ => ?_)
  refine wp_seq (set_seven h fun a h => ?_)
  refine wp_seq (row_test (sl := 0) (s := 10) h h.t0 (by decide) hR.then fun a h hle1 => ?_)
  refine wp_seq (row_add (T := 0) (sl := 0) (s := 13) h h.t0 (by decide) (by decide) (by omega) fun a h => ?_)
  refine wp_seq (sum_test (s := 17) h (by decide) hR.then fun a h hT => ?_)
  refine wp_seq (wp_seq (set_eight h fun a h => ?_))
  refine wp_block (wp_loop (fun a' w' => w' = w ∧ ∃ T q : Nat, T ≤ 1048576 ∧ q ≤ n1 ∧ St (.slice ao1 n1 c1) (.slice ao2 n2 c2) (.int .i64 (T : Nat)) (.int .i64 (q : Nat)) undef a') (fun a' _ => n1 - (intOf (a'.eval (.tmp 8))).toNat) ⟨rfl, 0 + n1, 0, hT, Nat.zero_le _, h⟩ ?_)
  · clear h a
    rintro a w ⟨rfl, T, q, hT, hqn, h⟩
    have hμ : (intOf (a.eval (.tmp 8))).toNat = q := by rw [h.t8]; exact i64_val
    rw [hμ]
    clear hμ
    refine wp_seq (head_test (sl := 0) (iv := 8) (s := 19) h h.t0 h.t8 (by decide) (by decide) (fun a h hq => ?_) (fun a h hnq => ?_))
    · obtain rfl : ao1 = some ⟨b1, o1, none⟩ := h1.resolve_left (by omega)
      obtain ⟨tx, hcell⟩ := row_fields (hr1 q (by omega))
      refine wp_seq (wp_block ?_)
      refine wp_seq (fld_test (sl := 0) (iv := 8) (s := 25) (c := 2) h h.t0 h.t8 (by decide) (by decide) hq (by decide) (hcell 2 (by omega)) hR fun a h hle => ?_)
      refine wp_seq (fld_add (sl := 0) (iv := 8) (s := 32) (c := 2) h h.t0 h.t8 (by decide) (by decide) (by decide) hq (by decide) (hcell 2 (by omega)) (by omega) fun a h => ?_)
      refine wp_seq (sum_test (s := 40) h (by decide) hR fun a h hT => ?_)
      refine wp_seq (fld_test (sl := 0) (iv := 8) (s := 42) (c := 4) h h.t0 h.t8 (by decide) (by decide) hq (by decide) (hcell 4 (by omega)) hR fun a h hle => ?_)
      refine wp_seq (fld_add (sl := 0) (iv := 8) (s := 49) (c := 4) h h.t0 h.t8 (by decide) (by decide) (by decide) hq (by decide) (hcell 4 (by omega)) (by omega) fun a h => ?_)
      refine wp_seq (sum_test (s := 57) h (by decide) hR fun a h hT => ?_)
      refine wp_seq (fld_test (sl := 0) (iv := 8) (s := 59) (c := 5) h h.t0 h.t8 (by decide) (by decide) hq (by decide) (hcell 5 (by omega)) hR fun a h hle => ?_)
      refine wp_seq (fld_add (sl := 0) (iv := 8) (s := 66) (c := 5) h h.t0 h.t8 (by decide) (by decide) (by decide) hq (by decide) (hcell 5 (by omega)) (by omega) fun a h => ?_)
      refine wp_seq (sum_test (s := 74) h (by decide) hR fun a h hT => ?_)
      refine wp_seq (fld_test (sl := 0) (iv := 8) (s := 76) (c := 6) h h.t0 h.t8 (by decide) (by decide) hq (by decide) (hcell 6 (by omega)) hR fun a h hle => ?_)
      refine wp_seq (fld_add (sl := 0) (iv := 8) (s := 83) (c := 6) h h.t0 h.t8 (by decide) (by decide) (by decide) hq (by decide) (hcell 6 (by omega)) (by omega) fun a h => ?_)
      refine wp_seq (sum_test (s := 91) h (by decide) hR fun a h hT => ?_)
      refine wp_seq (fld_test (sl := 0) (iv := 8) (s := 93) (c := 7) h h.t0 h.t8 (by decide) (by decide) hq (by decide) (hcell 7 (by omega)) hR fun a h hle => ?_)
      refine wp_seq (fld_add (sl := 0) (iv := 8) (s := 100) (c := 7) h h.t0 h.t8 (by decide) (by decide) (by decide) hq (by decide) (hcell 7 (by omega)) (by omega) fun a h => ?_)
      refine wp_seq (sum_test (s := 108) h (by decide) hR fun a h hT => ?_)
      refine wp_seq (fld_test (sl := 0) (iv := 8) (s := 110) (c := 8) h h.t0 h.t8 (by decide) (by decide) hq (by decide) (hcell 8 (by omega)) hR fun a h hle => ?_)
      refine wp_seq (fld_add (sl := 0) (iv := 8) (s := 117) (c := 8) h h.t0 h.t8 (by decide) (by decide) (by decide) hq (by decide) (hcell 8 (by omega)) (by omega) fun a h => ?_)
      refine wp_seq (sum_test (s := 125) h (by decide) hR fun a h hT => ?_)
      refine wp_seq (fld_test (sl := 0) (iv := 8) (s := 127) (c := 9) h h.t0 h.t8 (by decide) (by decide) hq (by decide) (hcell 9 (by omega)) hR fun a h hle => ?_)
      refine wp_seq (fld_add (sl := 0) (iv := 8) (s := 134) (c := 9) h h.t0 h.t8 (by decide) (by decide) (by decide) hq (by decide) (hcell 9 (by omega)) (by omega) fun a h => ?_)
      refine wp_seq (sum_test (s := 142) h (by decide) hR fun a h hT => ?_)
      refine wp_seq (fld_test (sl := 0) (iv := 8) (s := 144) (c := 10) h h.t0 h.t8 (by decide) (by decide) hq (by decide) (hcell 10 (by omega)) hR fun a h hle => ?_)
      refine wp_seq (fld_add (sl := 0) (iv := 8) (s := 151) (c := 10) h h.t0 h.t8 (by decide) (by decide) (by decide) hq (by decide) (hcell 10 (by omega)) (by omega) fun a h => ?_)
      refine wp_seq (sum_test (s := 159) h (by decide) hR fun a h hT => ?_)
      refine wp_seq (fld_test (sl := 0) (iv := 8) (s := 161) (c := 11) h h.t0 h.t8 (by decide) (by decide) hq (by decide) (hcell 11 (by omega)) hR fun a h hle => ?_)
      refine wp_seq (fld_add (sl := 0) (iv := 8) (s := 168) (c := 11) h h.t0 h.t8 (by decide) (by decide) (by decide) hq (by decide) (hcell 11 (by omega)) (by omega) fun a h => ?_)
      refine wp_seq (sum_test (s := 176) h (by decide) hR fun a h hT => ?_)
      refine wp_seq (fld_test (sl := 0) (iv := 8) (s := 178) (c := 12) h h.t0 h.t8 (by decide) (by decide) hq (by decide) (hcell 12 (by omega)) hR fun a h hle => ?_)
      refine wp_seq (fld_add (sl := 0) (iv := 8) (s := 185) (c := 12) h h.t0 h.t8 (by decide) (by decide) (by decide) hq (by decide) (hcell 12 (by omega)) (by omega) fun a h => ?_)
      refine wp_seq (sum_test (s := 193) h (by decide) hR fun a h hT => ?_)
      refine wp_seq (fld_test (sl := 0) (iv := 8) (s := 195) (c := 13) h h.t0 h.t8 (by decide) (by decide) hq (by decide) (hcell 13 (by omega)) hR fun a h hle => ?_)
      refine wp_seq (fld_add (sl := 0) (iv := 8) (s := 202) (c := 13) h h.t0 h.t8 (by decide) (by decide) (by decide) hq (by decide) (hcell 13 (by omega)) (by omega) fun a h => ?_)
      refine wp_seq (sum_test (s := 210) h (by decide) hR fun a h hT => ?_)
      refine wp_seq (fld_test (sl := 0) (iv := 8) (s := 212) (c := 14) h h.t0 h.t8 (by decide) (by decide) hq (by decide) (hcell 14 (by omega)) hR fun a h hle => ?_)
      refine wp_seq (fld_add (sl := 0) (iv := 8) (s := 219) (c := 14) h h.t0 h.t8 (by decide) (by decide) (by decide) hq (by decide) (hcell 14 (by omega)) (by omega) fun a h => ?_)
      refine wp_seq (sum_test (s := 227) h (by decide) hR fun a h hT => ?_)
      refine wp_seq (fld_test (sl := 0) (iv := 8) (s := 229) (c := 15) h h.t0 h.t8 (by decide) (by decide) hq (by decide) (hcell 15 (by omega)) hR fun a h hle => ?_)
      refine wp_seq (fld_add (sl := 0) (iv := 8) (s := 236) (c := 15) h h.t0 h.t8 (by decide) (by decide) (by decide) hq (by decide) (hcell 15 (by omega)) (by omega) fun a h => ?_)
      refine wp_seq (sum_test (s := 244) h (by decide) hR fun a h hT => ?_)
      refine wp_seq (fld_test (sl := 0) (iv := 8) (s := 246) (c := 16) h h.t0 h.t8 (by decide) (by decide) hq (by decide) (hcell 16 (by omega)) hR fun a h hle => ?_)
      refine wp_seq (fld_add (sl := 0) (iv := 8) (s := 253) (c := 16) h h.t0 h.t8 (by decide) (by decide) (by decide) hq (by decide) (hcell 16 (by omega)) (by omega) fun a h => ?_)
      refine sum_test (s := 261) h (by decide) hR fun a h hT => ?_
      refine next_eight (s := 23) h (by decide) (by omega) fun a h => ⟨⟨rfl, _, q + 1, hT, hq, h⟩, ?_⟩
      show n1 - (intOf (a.eval (.tmp 8))).toNat < n1 - q
      rw [h.t8, i64_val]
      omega
    · refine exit_out ?_
      refine wp_seq (row_test (sl := 1) (s := 263) h h.t1 (by decide) hR.then fun a h hle2 => ?_)
      refine wp_seq (row_add (sl := 1) (s := 266) h h.t1 (by decide) (by decide) (by omega) fun a h => ?_)
      refine wp_seq (sum_test (s := 270) h (by decide) hR.then fun a h hT => ?_)
      refine wp_seq (wp_seq (set_nine h fun a h => ?_))
      refine wp_block (wp_loop (fun a' w' => w' = w ∧ ∃ T q : Nat, T ≤ 1048576 ∧ q ≤ n2 ∧ St (.slice ao1 n1 c1) (.slice ao2 n2 c2) (.int .i64 (T : Nat)) _ (.int .i64 (q : Nat)) a') (fun a' _ => n2 - (intOf (a'.eval (.tmp 9))).toNat) ⟨rfl, _, 0, hT, Nat.zero_le _, h⟩ ?_)
      clear h a
      rintro a w ⟨rfl, T, q, hT, hqn, h⟩
      have hμ : (intOf (a.eval (.tmp 9))).toNat = q := by rw [h.t9]; exact i64_val
      rw [hμ]
      clear hμ
      refine wp_seq (head_test (sl := 1) (iv := 9) (s := 272) h h.t1 h.t9 (by decide) (by decide) (fun a h hq => ?_) (fun a h hnq => ?_))
      · obtain rfl : ao2 = some ⟨b2, o2, none⟩ := h2.resolve_left (by omega)
        obtain ⟨tx, hcell⟩ := row_fields (hr2 q (by omega))
        refine wp_seq (wp_block ?_)
        refine wp_seq (fld_test (sl := 1) (iv := 9) (s := 278) (c := 2) h h.t1 h.t9 (by decide) (by decide) hq (by decide) (hcell 2 (by omega)) hR fun a h hle => ?_)
        refine wp_seq (fld_add (sl := 1) (iv := 9) (s := 285) (c := 2) h h.t1 h.t9 (by decide) (by decide) (by decide) hq (by decide) (hcell 2 (by omega)) (by omega) fun a h => ?_)
        refine wp_seq (sum_test (s := 293) h (by decide) hR fun a h hT => ?_)
        refine wp_seq (fld_test (sl := 1) (iv := 9) (s := 295) (c := 4) h h.t1 h.t9 (by decide) (by decide) hq (by decide) (hcell 4 (by omega)) hR fun a h hle => ?_)
        refine wp_seq (fld_add (sl := 1) (iv := 9) (s := 302) (c := 4) h h.t1 h.t9 (by decide) (by decide) (by decide) hq (by decide) (hcell 4 (by omega)) (by omega) fun a h => ?_)
        refine wp_seq (sum_test (s := 310) h (by decide) hR fun a h hT => ?_)
        refine wp_seq (fld_test (sl := 1) (iv := 9) (s := 312) (c := 5) h h.t1 h.t9 (by decide) (by decide) hq (by decide) (hcell 5 (by omega)) hR fun a h hle => ?_)
        refine wp_seq (fld_add (sl := 1) (iv := 9) (s := 319) (c := 5) h h.t1 h.t9 (by decide) (by decide) (by decide) hq (by decide) (hcell 5 (by omega)) (by omega) fun a h => ?_)
        refine wp_seq (sum_test (s := 327) h (by decide) hR fun a h hT => ?_)
        refine wp_seq (fld_test (sl := 1) (iv := 9) (s := 329) (c := 6) h h.t1 h.t9 (by decide) (by decide) hq (by decide) (hcell 6 (by omega)) hR fun a h hle => ?_)
        refine wp_seq (fld_add (sl := 1) (iv := 9) (s := 336) (c := 6) h h.t1 h.t9 (by decide) (by decide) (by decide) hq (by decide) (hcell 6 (by omega)) (by omega) fun a h => ?_)
        refine wp_seq (sum_test (s := 344) h (by decide) hR fun a h hT => ?_)
        refine wp_seq (fld_test (sl := 1) (iv := 9) (s := 346) (c := 7) h h.t1 h.t9 (by decide) (by decide) hq (by decide) (hcell 7 (by omega)) hR fun a h hle => ?_)
        refine wp_seq (fld_add (sl := 1) (iv := 9) (s := 353) (c := 7) h h.t1 h.t9 (by decide) (by decide) (by decide) hq (by decide) (hcell 7 (by omega)) (by omega) fun a h => ?_)
        refine wp_seq (sum_test (s := 361) h (by decide) hR fun a h hT => ?_)
        refine wp_seq (fld_test (sl := 1) (iv := 9) (s := 363) (c := 8) h h.t1 h.t9 (by decide) (by decide) hq (by decide) (hcell 8 (by omega)) hR fun a h hle => ?_)
        refine wp_seq (fld_add (sl := 1) (iv := 9) (s := 370) (c := 8) h h.t1 h.t9 (by decide) (by decide) (by decide) hq (by decide) (hcell 8 (by omega)) (by omega) fun a h => ?_)
        refine wp_seq (sum_test (s := 378) h (by decide) hR fun a h hT => ?_)
        refine wp_seq (fld_test (sl := 1) (iv := 9) (s := 380) (c := 9) h h.t1 h.t9 (by decide) (by decide) hq (by decide) (hcell 9 (by omega)) hR fun a h hle => ?_)
        refine wp_seq (fld_add (sl := 1) (iv := 9) (s := 387) (c := 9) h h.t1 h.t9 (by decide) (by decide) (by decide) hq (by decide) (hcell 9 (by omega)) (by omega) fun a h => ?_)
        refine wp_seq (sum_test (s := 395) h (by decide) hR fun a h hT => ?_)
        refine wp_seq (fld_test (sl := 1) (iv := 9) (s := 397) (c := 10) h h.t1 h.t9 (by decide) (by decide) hq (by decide) (hcell 10 (by omega)) hR fun a h hle => ?_)
        refine wp_seq (fld_add (sl := 1) (iv := 9) (s := 404) (c := 10) h h.t1 h.t9 (by decide) (by decide) (by decide) hq (by decide) (hcell 10 (by omega)) (by omega) fun a h => ?_)
        refine wp_seq (sum_test (s := 412) h (by decide) hR fun a h hT => ?_)
        refine wp_seq (fld_test (sl := 1) (iv := 9) (s := 414) (c := 11) h h.t1 h.t9 (by decide) (by decide) hq (by decide) (hcell 11 (by omega)) hR fun a h hle => ?_)
        refine wp_seq (fld_add (sl := 1) (iv := 9) (s := 421) (c := 11) h h.t1 h.t9 (by decide) (by decide) (by decide) hq (by decide) (hcell 11 (by omega)) (by omega) fun a h => ?_)
        refine wp_seq (sum_test (s := 429) h (by decide) hR fun a h hT => ?_)
        refine wp_seq (fld_test (sl := 1) (iv := 9) (s := 431) (c := 12) h h.t1 h.t9 (by decide) (by decide) hq (by decide) (hcell 12 (by omega)) hR fun a h hle => ?_)
        refine wp_seq (fld_add (sl := 1) (iv := 9) (s := 438) (c := 12) h h.t1 h.t9 (by decide) (by decide) (by decide) hq (by decide) (hcell 12 (by omega)) (by omega) fun a h => ?_)
        refine wp_seq (sum_test (s := 446) h (by decide) hR fun a h hT => ?_)
        refine wp_seq (fld_test (sl := 1) (iv := 9) (s := 448) (c := 13) h h.t1 h.t9 (by decide) (by decide) hq (by decide) (hcell 13 (by omega)) hR fun a h hle => ?_)
        refine wp_seq (fld_add (sl := 1) (iv := 9) (s := 455) (c := 13) h h.t1 h.t9 (by decide) (by decide) (by decide) hq (by decide) (hcell 13 (by omega)) (by omega) fun a h => ?_)
        refine wp_seq (sum_test (s := 463) h (by decide) hR fun a h hT => ?_)
        refine wp_seq (fld_test (sl := 1) (iv := 9) (s := 465) (c := 14) h h.t1 h.t9 (by decide) (by decide) hq (by decide) (hcell 14 (by omega)) hR fun a h hle => ?_)
        refine wp_seq (fld_add (sl := 1) (iv := 9) (s := 472) (c := 14) h h.t1 h.t9 (by decide) (by decide) (by decide) hq (by decide) (hcell 14 (by omega)) (by omega) fun a h => ?_)
        refine wp_seq (sum_test (s := 480) h (by decide) hR fun a h hT => ?_)
        refine wp_seq (fld_test (sl := 1) (iv := 9) (s := 482) (c := 15) h h.t1 h.t9 (by decide) (by decide) hq (by decide) (hcell 15 (by omega)) hR fun a h hle => ?_)
        refine wp_seq (fld_add (sl := 1) (iv := 9) (s := 489) (c := 15) h h.t1 h.t9 (by decide) (by decide) (by decide) hq (by decide) (hcell 15 (by omega)) (by omega) fun a h => ?_)
        refine wp_seq (sum_test (s := 497) h (by decide) hR fun a h hT => ?_)
        refine wp_seq (fld_test (sl := 1) (iv := 9) (s := 499) (c := 16) h h.t1 h.t9 (by decide) (by decide) hq (by decide) (hcell 16 (by omega)) hR fun a h hle => ?_)
        refine wp_seq (fld_add (sl := 1) (iv := 9) (s := 506) (c := 16) h h.t1 h.t9 (by decide) (by decide) (by decide) hq (by decide) (hcell 16 (by omega)) (by omega) fun a h => ?_)
        refine sum_test (s := 514) h (by decide) hR fun a h hT => ?_
        refine next_nine (s := 276) h (by decide) (by omega) fun a h => ⟨⟨rfl, _, q + 1, hT, hq, h⟩, ?_⟩
        show n2 - (intOf (a.eval (.tmp 9))).toNat < n2 - q
        rw [h.t9, i64_val]
        omega
      · refine exit_out ?_
        refine wp_seq (set_six h fun a h e => wp_ret (hR a true h.sz h.df e))
end Go.Proofs.Qxb6603644a
