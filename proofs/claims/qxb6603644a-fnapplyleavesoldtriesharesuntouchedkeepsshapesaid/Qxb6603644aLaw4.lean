/-
  THE LAW FnApplyLeavesOldTrieSharesUntouchedKeepsShape (4).
-/
import Derived.Test.Qxb6603644aLaw3
import Derived.Test.Qxb6603644aBytes14
import Derived.Test.Qxb6603644aShape
import Derived.Test.Qxb6603644aShared
namespace Go.Proofs.Qxb6603644a
open Go.RowKit Go.Shelf

set_option maxRecDepth 10000 in
set_option maxHeartbeats 4000000 in
theorem law4 {w : World} {ao1 ao2 : Option Addr} {n c1 b1 o1 m c2 b2 o2 : Nat} {bs cs : List Z} {sh : Int} (h1 : RowIn w ao1 n c1 b1 o1 bs) (h2 : RowIn w ao2 m c2 b2 o2 cs) (sz1 : ∀ z ∈ bs, SzZ z) (sz2 : ∀ z ∈ cs, SzZ z) (hr1 : ∀ z ∈ bs, HrZ z) (hr2 : ∀ z ∈ cs, HrZ z) :
    Calls Try.prog 4 #[.slice ao1 n c1, .slice ao2 m c2, .int .i64 sh] w fun x w' => x = .returned (.bool true) ∧ Below w.heap.size w w' := by
  have hc5 := zzBytes14_any ao1 ao2 b1 o1 n c1 b2 o2 m c2 bs cs (.int .i64 sh) w h1.hao h2.hao h1.1 h2.1 h1.2.2 h2.2.2
  by_cases hn4 : n ≤ 4096
  case neg =>
    have hn5 : 4096 < n := by omega
    clear h1 h2 sz1 sz2 hr1 hr2
    go_enter Try.func4, Try.ntmps4
    go_wp2_with (go_at_call 14; refine hc5.mono ?_; rintro x0 w ⟨⟨r0, rfl, _⟩, rfl⟩; cases r0)
    all_goals
      go_ret
      exact ⟨rfl, Below.refl _ _⟩
  by_cases hm4 : m ≤ 4096
  case neg =>
    have hn5 : ¬ 4096 < n := by omega
    have hm5 : 4096 < m := by omega
    clear h1 h2 sz1 sz2 hr1 hr2
    go_enter Try.func4, Try.ntmps4
    go_wp2_with (go_at_call 14; refine hc5.mono ?_; rintro x0 w ⟨⟨r0, rfl, _⟩, rfl⟩; cases r0)
    all_goals
      go_ret
      exact ⟨rfl, Below.refl _ _⟩
  have hn5 : ¬ 4096 < n := by omega
  have hm5 : ¬ 4096 < m := by omega
  have H1 : Hid (RowIn w ao1 n c1 b1 o1 bs) := h1
  have H2 : Hid (RowIn w ao2 m c2 b2 o2 cs) := h2
  have HR1 : Hid (∀ z ∈ bs, HrZ z) := hr1
  have HR2 : Hid (∀ z ∈ cs, HrZ z) := hr2
  have hc6a := bytes_any ao1 b1 o1 n c1 bs w h1.hao h1.1 (by omega) h1.2.2 sz1
  have hc6b := fun w' (h : Below w.heap.size w w') => bytes_any ao2 b2 o2 m c2 cs w' h2.hao h2.1 (by omega) (h2.2.2.later h) sz2
  have hc7 := fun w' (h : Below w.heap.size w w') => domain_any ao1 ao2 b1 o1 n c1 b2 o2 m c2 sh bs cs w' h1.hao h2.hao h1.1 h2.1 (by omega) (by omega) (h1.2.2.later h) (h2.2.2.later h) hr1 hr2
  have hc8a := fun w' (h : Below w.heap.size w w') => clone_any (h1.later h) (by omega)
  have hc8b := fun w' (h : Below w.heap.size w w') => clone_any (h2.later h) (by omega)
  have HC6B : Hid (∀ w' (_ : Below w.heap.size w w'), Calls Try.prog 6 #[.slice ao2 m c2] w' fun x w'' => BytesPost cs x ∧ Below w'.heap.size w' w'') := hc6b
  have HC7 : Hid (∀ w' (_ : Below w.heap.size w w'), Calls Try.prog 7 #[.slice ao1 n c1, .slice ao2 m c2, .int .i64 sh] w' fun x w'' => Says (∃ d, DomZ bs cs sh d) x ∧ Below w'.heap.size w' w'') := hc7
  have HC8A : Hid (∀ w' (_ : Below w.heap.size w w'), Calls Try.prog 8 #[.slice ao1 n c1] w' fun x w'' => ∃ ao' A cap', x = .returned (.slice ao' n cap') ∧ (n = 0 ∨ ao' = some ⟨A, 0, none⟩) ∧ ZRow w'' A 0 bs ∧ Below w'.heap.size w' w'') := hc8a
  have HC8B : Hid (∀ w' (_ : Below w.heap.size w w'), Calls Try.prog 8 #[.slice ao2 m c2] w' fun x w'' => ∃ ao' A cap', x = .returned (.slice ao' m cap') ∧ (m = 0 ∨ ao' = some ⟨A, 0, none⟩) ∧ ZRow w'' A 0 cs ∧ Below w'.heap.size w' w'') := hc8b
  clear h1 h2 sz1 sz2 hr1 hr2 hc6b hc7 hc8a hc8b
  go_enter Try.func4, Try.ntmps4
  go_upto_region 5 with (go_at_call 14; refine hc5.mono ?_; rintro x0 w ⟨⟨r0, rfl, _⟩, rfl⟩; cases r0)
  · go_ret
    exact ⟨rfl, Below.refl _ _⟩
  clear hc5
  go_upto_region 7 with (first
    | (go_at_call_of 6 (Value.slice ao1 n c1); refine hc6a.mono ?_; rintro x1 w1 ⟨⟨t1, rfl, ht1, hs1⟩, hb1⟩; have HS1 : Hid (t1 ≤ 1048576 → ∀ z ∈ bs, SmZ z) := hs1; clear hs1)
    | (go_at_call_of 6 (Value.slice ao2 m c2); refine (HC6B.out _ hb1).mono ?_; rintro x2 w2 ⟨⟨t2, rfl, ht2, hs2⟩, hb2⟩; have HS2 : Hid (t2 ≤ 1048576 → ∀ z ∈ cs, SmZ z) := hs2; clear hs2))
  · go_ret
    exact ⟨rfl, hb1.trans (hb2.mono hb1.size)⟩
  have hB2 : Below w.heap.size w w2 := hb1.trans (hb2.mono hb1.size)
  have hsm1 : Hid (∀ z ∈ bs, SmZ z) := HS1.out (by omega)
  have hsm2 : Hid (∀ z ∈ cs, SmZ z) := HS2.out (by omega)
  have HB2 : Hid (Below w.heap.size w w2) := hB2
  clear hb1 hb2 hB2 HS1 HS2 hc6a HC6B
  go_upto_region 9 with (go_at_call 7; refine (HC7.out _ HB2.out).mono ?_; rintro x3 w3 ⟨⟨r3, rfl, hd3⟩, hb3⟩; have HD3 : Hid (r3 = true → ∃ d, DomZ bs cs sh d) := hd3; clear hd3; cases r3)
  · go_ret
    exact ⟨rfl, HB2.out.trans (hb3.mono HB2.out.size)⟩
  have HB3 : Hid (Below w.heap.size w w3) := HB2.out.trans (hb3.mono HB2.out.size)
  obtain ⟨d, hD⟩ := HD3.out (by trivial)
  have HD : Hid (DomZ bs cs sh d) := hD
  clear hD HD3 hb3 HB2 HC7
  go_upto_region 11 with (first
    | (go_at_call_of 8 (Value.slice ao1 n c1); refine (HC8A.out _ HB3.out).mono ?_; rintro x4 w4 ⟨ao3, A1, c3, rfl, hao3, hz4, hb4⟩)
    | (go_at_call_of 8 (Value.slice ao2 m c2); refine (HC8B.out _ (HB3.out.trans (hb4.mono HB3.out.size))).mono ?_; rintro x5 w5 ⟨ao4, A2, c4, rfl, hao4, hz5, hb5⟩))
  have HB5 : Hid (Below w.heap.size w w5) := by
    have h4 := HB3.out.trans (hb4.mono HB3.out.size)
    exact h4.trans (hb5.mono h4.size)
  have HZ1 : Hid (ZRow w5 A1 0 bs) := hz4.later hb5
  have HZ2 : Hid (ZRow w5 A2 0 cs) := hz5
  have HAO3 : Hid (n = 0 ∨ ao3 = some ⟨A1, 0, none⟩) := hao3
  have HAO4 : Hid (m = 0 ∨ ao4 = some ⟨A2, 0, none⟩) := hao4
  clear hz4 hz5 hb4 hb5 hao3 hao4 HC8A HC8B HB3
  obtain ⟨P, hP⟩ : ∃ P, refZ bs cs / 2 ^ (4 * d) = P := ⟨_, rfl⟩
  have hL1 : Hid (ListOK bs d P) := ⟨strict_sorted HD.out.s1, fun z hz => (HD.out.pre z (List.mem_append_left _ hz)).trans hP, hsm1.out, HR1.out⟩
  have hL2 : Hid (ListOK cs d P) := ⟨strict_sorted HD.out.s2, fun z hz => (HD.out.pre z (List.mem_append_right _ hz)).trans hP, hsm2.out, HR2.out⟩
  have hone : Hid (OneHash ((bs ++ cs).map toR)) := oneHash_of HD.out.one
  have hone1 : Hid (OneHash (bs.map toR)) := fun a ha b hb => hone.out a (by rw [List.map_append]; exact List.mem_append_left _ ha) b (by rw [List.map_append]; exact List.mem_append_left _ hb)
  have hrr0 := ref_range HR1.out HR2.out
  obtain ⟨want, hwant⟩ : ∃ want : Nat, refZ bs cs = (want : Int) := ⟨(refZ bs cs).toNat, by omega⟩
  have hwlt : want < 18446744073709551616 := by omega
  have HWP : Hid (((want : Nat) : Int) / 2 ^ (4 * d) = P) := by rw [← hwant]; exact hP
  have hrf := ref_any ao3 ao4 A1 0 n c3 A2 0 m c4 bs cs w5 HAO3.out HAO4.out H1.out.1 H2.out.1 HZ1.out HZ2.out
  rw [hwant] at hrf
  clear hP hsm1 hsm2 hrr0 hwant
  go_upto_region 12 with (go_at_call 15; refine hrf.mono ?_; rintro x55 w5 ⟨rfl, rfl⟩)
  clear hrf
  have hmk1 := make_any (cap := c3) HAO3.out H1.out.1 (by omega) HZ1.out
  go_upto_region 13 with (first
    | (go_at_call 10; refine hmk1.mono ?_; rintro x6 w6 ⟨rfl, hM6⟩; have hap := apply_first hM6 H1.out.1 hn4 HD.out.d16 hL1.out hone1.out; rw [← HD.out.sh] at hap)
    | (go_at_call 9; refine hap.mono ?_; rintro x7 w7 ⟨t1, rfl, hA1, hT1, hb7⟩))
  have hB7 : Below w5.heap.size w5 w7 := hM6.below.trans (hb7.mono (by omega))
  have e1 : (bs.map ofZ).map K.r = bs.map toR := by rw [List.map_map]; rfl
  obtain ⟨g1, m1, k1⟩ := ap_good0 d P _ t1 hL1.out.srt (fun k hk => by obtain ⟨z, hz, rfl⟩ := List.mem_map.1 hk; exact hL1.out.pre z hz) (by rw [e1]; exact hone1.out) hA1
  rw [List.length_map, H1.out.1] at k1
  have hsub : ∀ r ∈ t1.collect, r ∈ bs.map toR := fun r hr => by
    obtain ⟨k, hk, _, _, rfl⟩ := (m1 r).1 hr
    obtain ⟨z, hz, rfl⟩ := List.mem_map.1 hk
    exact List.mem_map_of_mem (f := toR) hz
  have hone2 : Hid (OneHash (t1.collect ++ cs.map toR)) := by
    have hs : ∀ r ∈ t1.collect ++ cs.map toR, r ∈ (bs ++ cs).map toR := fun r hr => by
      rw [List.map_append]
      rcases List.mem_append.1 hr with h | h
      · exact List.mem_append_left _ (hsub r h)
      · exact List.mem_append_right _ h
    exact fun a ha b hb => hone.out a (hs a ha) b (hs b hb)
  have hrr : Hid (∀ r ∈ t1.collect, 0 ≤ r.hash ∧ r.hash < 18446744073709551616) := fun r hr => by
    obtain ⟨z, hz, rfl⟩ := List.mem_map.1 (hsub r hr)
    exact HR1.out z hz
  have G1 : Hid (Good t1 d P) := g1
  have HT1 : Hid (IsT w7 (fun _ => False) t1) := hT1
  have HA1 : Hid (ApR d .nil (bs.map ofZ) t1) := hA1
  have HB7 : Hid (Below w5.heap.size w5 w7) := hB7
  have hmk2 := make_any (cap := c4) HAO4.out H2.out.1 (by omega) (HZ2.out.later hB7)
  clear hmk1 hap hM6 hb7 hB7 e1 g1 m1 hsub hT1 hA1
  go_upto_region 14 with (first
    | (go_at_call 10; refine hmk2.mono ?_; rintro x8 w8 ⟨rfl, hM8⟩; have hap2 := apply_second hM8 H2.out.1 hm4 HD.out.d16 hL2.out HD.out.seq hone2.out G1.out HT1.out (by omega) hrr.out; rw [← HD.out.sh] at hap2)
    | (go_at_call 9; refine hap2.mono ?_; rintro x9 w9 ⟨t2, rfl, hA2, hT2, hb9⟩))
  have HB9 : Hid (Below w7.heap.size w7 w9) := hM8.below.trans (hb9.mono (by omega))
  obtain ⟨_, g2, _, _, _, hcol⟩ := plain_law H1.out.1 H2.out.1 hL1.out.srt hL2.out.srt hL1.out.pre hL2.out.pre HD.out.seq hone.out HA1.out hA2
  obtain ⟨_, _, _, _, _, hcol1⟩ := plain_law (cs := []) (m := 0) H1.out.1 rfl hL1.out.srt (by simp) hL1.out.pre (by simp) (by simp) (by rw [List.append_nil]; exact hone1.out) HA1.out (ap_nil d t1)
  obtain ⟨M, hM⟩ : ∃ M, mdl (n + m) bs cs = M := ⟨_, rfl⟩
  obtain ⟨M1, hM1⟩ : ∃ M1, mdl (n + 0) bs [] = M1 := ⟨_, rfl⟩
  have hMl : M.length ≤ 8192 := by
    have := mdl_len (n + m) bs cs
    rw [hM] at this
    omega
  have hM1l : M1.length ≤ 4096 := by
    have := mdl_len (n + 0) bs []
    rw [hM1] at this
    omega
  rw [hM] at hcol
  rw [hM1] at hcol1
  have HCOL1 : Hid (t1.collect = M1.map toR) := hcol1
  have hk1 : t1.cnt = M1.length := by rw [(good_all t1 d P G1.out).2.2, hcol1, List.length_map]
  have hk2 : t2.cnt = M.length := by rw [(good_all t2 d P g2).2.2, hcol, List.length_map]
  have hr2' : ∀ r ∈ t2.collect, 0 ≤ r.hash ∧ r.hash < 18446744073709551616 := fun r hr => by
    rw [hcol] at hr
    obtain ⟨z, hz, rfl⟩ := List.mem_map.1 hr
    rw [← hM] at hz
    rcases (mdl_spec (n + m) bs cs (by rw [H1.out.1, H2.out.1]; exact Nat.le_refl _) hL1.out.srt hL2.out.srt).1 z hz with h | h
    · exact HR1.out z h
    · exact HR2.out z h
  have hT19 : IsT w9 (fun _ => False) t1 := HT1.out.keep (Keep.below (X := Nowhere) HB9.out) (fun _ h => h.elim)
  have hcoll := coll_any t1 d P 0 G1.out (by have := HD.out.d16; omega) w9 (.slice none 0 0) [] w9 hT19 ⟨World.ownsRow_nil _ _ _ _, Below.refl _ _⟩ (by rw [hcol1, List.length_map]; simp; omega)
  have hcoll' : Calls Try.prog 11 #[.pointer t1.ptr, .int .i64 0, .slice none 0 0] w9 fun x W' => ∃ v', x = .returned (.tuple #[v', .bool true]) ∧ CO w9 v' ([] ++ t1.collect) W' := hcoll
  have hZ9 : Hid (ZRow w9 A1 0 bs ∧ ZRow w9 A2 0 cs) := ⟨(HZ1.out.later HB7.out).later HB9.out, (HZ2.out.later HB7.out).later HB9.out⟩
  have hmod1 := fun w10 (h : Below w9.heap.size w9 w10) => model_any ao3 none A1 0 n c3 0 0 0 0 bs [] w10 HAO3.out (.inl rfl) H1.out.1 rfl (by omega) (by omega) (hZ9.out.1.later h) (fun i hi => absurd hi (by simp))
  rw [hM1] at hmod1
  have hmod := fun w10 (h : Below w9.heap.size w9 w10) => model_any ao3 ao4 A1 0 n c3 A2 0 m c4 bs cs w10 HAO3.out HAO4.out H1.out.1 H2.out.1 (by omega) (by omega) (hZ9.out.1.later h) (hZ9.out.2.later h)
  rw [hM] at hmod
  have HMOD1 : Hid (∀ w10 (_ : Below w9.heap.size w9 w10), Calls Try.prog 13 #[.slice ao3 n c3, .slice none 0 0] w10 fun x w' => ∃ v, x = .returned v ∧ w'.ownsRow w10.heap.size 41 21 v M1.length (M1.flatMap encZ) ∧ Below w10.heap.size w10 w') := hmod1
  have HMOD : Hid (∀ w10 (_ : Below w9.heap.size w9 w10), Calls Try.prog 13 #[.slice ao3 n c3, .slice ao4 m c4] w10 fun x w' => ∃ v, x = .returned v ∧ w'.ownsRow w10.heap.size 41 21 v M.length (M.flatMap encZ) ∧ Below w10.heap.size w10 w') := hmod
  have hsh1 := fun w10 (h : Below w9.heap.size w9 w10) => shape_any t1 d P 0 want G1.out (by have := HD.out.d16; omega) hwlt HWP.out (by omega) hrr.out w10 (hT19.keep (Keep.below (X := Nowhere) h) (fun _ h => h.elim))
  have hsh2 := fun w10 (h : Below w9.heap.size w9 w10) => shape_any t2 d P 0 want g2 (by have := HD.out.d16; omega) hwlt HWP.out (by omega) hr2' w10 (hT2.keep (Keep.below (X := Nowhere) h) (fun _ h => h.elim))
  rw [hk1, ← HD.out.sh] at hsh1
  rw [hk2, ← HD.out.sh] at hsh2
  have hone3 : OneHash (t1.collect ++ (cs.map ofZ).map K.r) := by
    rw [show (cs.map ofZ).map K.r = cs.map toR by rw [List.map_map]; rfl]
    exact hone2.out
  have hshd := fun w10 (h : Below w9.heap.size w9 w10) => shared_any d P t1 t2 0 cs ⟨G1.out, hL2.out.srt, fun k hk => by obtain ⟨z, hz, rfl⟩ := List.mem_map.1 hk; exact hL2.out.pre z hz, fun k hk => by obtain ⟨z, hz, rfl⟩ := List.mem_map.1 hk; exact HD.out.seq z hz, hone3⟩ hA2 (by have := HD.out.d16; omega) w10 ao4 m c4 A2 (hT19.keep (Keep.below (X := Nowhere) h) (fun _ h => h.elim)) (hT2.keep (Keep.below (X := Nowhere) h) (fun _ h => h.elim)) HAO4.out H2.out.1 hm4 (hZ9.out.2.later h) HR2.out
  rw [← HD.out.sh] at hshd
  have HSH1 : Hid (∀ w10 (_ : Below w9.heap.size w9 w10), Calls Try.prog 16 #[.pointer t1.ptr, .int .i64 sh, .int .u64 (want : Nat), .int .i64 0] w10 fun x w' => x = .returned (.tuple #[.int .i64 (M1.length : Nat), .bool true]) ∧ Below w10.heap.size w10 w') := hsh1
  have HSH2 : Hid (∀ w10 (_ : Below w9.heap.size w9 w10), Calls Try.prog 16 #[.pointer t2.ptr, .int .i64 sh, .int .u64 (want : Nat), .int .i64 0] w10 fun x w' => x = .returned (.tuple #[.int .i64 (M.length : Nat), .bool true]) ∧ Below w10.heap.size w10 w') := hsh2
  have HSHD : Hid (∀ w10 (_ : Below w9.heap.size w9 w10), Calls Try.prog 17 #[.pointer t1.ptr, .pointer t2.ptr, .slice ao4 m c4, .int .i64 sh, .int .i64 0] w10 fun x w' => x = .returned (.bool true) ∧ Below w10.heap.size w10 w') := hshd
  have HB9' : Hid (Below w.heap.size w w9) := by
    have h7 := HB5.out.trans (HB7.out.mono HB5.out.size)
    exact h7.trans (HB9.out.mono h7.size)
  have hpd : Hid (t1.ptr = t1.ptr) := rfl
  obtain ⟨k1, hk1'⟩ : ∃ k1, M1.length = k1 := ⟨_, rfl⟩
  obtain ⟨k2, hk2'⟩ : ∃ k2, M.length = k2 := ⟨_, rfl⟩
  have HK1 : Hid (M1.length = k1) := hk1'
  have HK2 : Hid (M.length = k2) := hk2'
  rw [hk1'] at HSH1
  rw [hk2'] at HSH2
  obtain ⟨p1, hp1⟩ : ∃ p, t1.ptr = p := ⟨_, rfl⟩
  obtain ⟨p2, hp2⟩ : ∃ p, t2.ptr = p := ⟨_, rfl⟩
  rw [hp1] at HSH1 HSHD hcoll' ⊢
  rw [hp2] at HSH2 HSHD ⊢
  clear hmk2 hap2 hM8 hb9 g2 hcol hcol1 hM hM1 hcoll hmod hmod1 hA2 hT2 G1 HT1 HA1 hone hone1 hone2 hone3 hrr hL1 hL2 HZ1 HZ2 HB7 HB9 HB5 hZ9 H1 H2 HR1 HR2 HAO3 HAO4 hsh1 hsh2 hshd hr2' hT19 hk1 hk2 hpd hp1 hp2 hk1' hk2' HWP
  go_upto_region 17 with (go_at_call 11; refine hcoll'.mono ?_; rintro x10 w10 ⟨v1, rfl, hC10⟩)
  have hown1 : w10.ownsRow w9.heap.size 68 19 v1 (M1.map toR).length ((M1.map toR).flatMap encG) := by
    have := hC10.own
    rw [List.nil_append, HCOL1.out] at this
    exact this
  have HO1 : Hid (w10.ownsRow w9.heap.size 68 19 v1 (M1.map toR).length ((M1.map toR).flatMap encG)) := hown1
  have HB10 : Hid (Below w9.heap.size w9 w10) := hC10.below
  clear hown1 hC10 hcoll'
  go_upto_region 18 with (go_at_call 13; refine (HMOD1.out _ HB10.out).mono ?_; rintro x11 w11 ⟨v2, rfl, hown2, hb11⟩; obtain ⟨ao5, co5, cp5, cq5, e1, e2, hsame⟩ := same_own (by omega) (own_later HO1.out hb11) hown2; rw [HK1.out] at e1 e2 hsame; subst e1 e2)
  have HB11 : Hid (Below w9.heap.size w9 w11) := HB10.out.trans (hb11.mono HB10.out.size)
  clear HMOD1 HO1 hown2
  go_upto_region 20 with (go_at_call 12; refine hsame.mono ?_; rintro x12 w12 ⟨rfl, hb12⟩)
  have HB12 : Hid (Below w9.heap.size w9 w12) := HB11.out.trans (hb12.mono HB11.out.size)
  clear hsame hb11 hb12 HB10 HB11
  have hkk1 : ((k1 : Int) != (k1 : Int)) = false := by simp
  have hkk2 : ((k2 : Int) != (k2 : Int)) = false := by simp
  go_upto_region 21 with (go_at_call 16; refine (HSH1.out _ HB12.out).mono ?_; rintro x13 w13 ⟨rfl, hb13⟩)
  have HB13 : Hid (Below w9.heap.size w9 w13) := HB12.out.trans (hb13.mono HB12.out.size)
  clear hb13 HB12 HSH1
  go_upto_region 24 with (go_at_call 16; refine (HSH2.out _ HB13.out).mono ?_; rintro x14 w14 ⟨rfl, hb14⟩)
  have HB14 : Hid (Below w9.heap.size w9 w14) := HB13.out.trans (hb14.mono HB13.out.size)
  clear hb14 HB13 HSH2
  go_upto_region 26 with (go_at_call 13; refine (HMOD.out _ HB14.out).mono ?_; rintro x15 w15 ⟨v3, rfl, hown3, hb15⟩; obtain ⟨ao6, b6, cp6, e6, _⟩ := own_form hown3; rw [HK2.out] at e6; subst e6)
  have HB15 : Hid (Below w9.heap.size w9 w15) := HB14.out.trans (hb15.mono HB14.out.size)
  clear hb15 HB14 HMOD hown3
  go_wp2_with (go_at_call 17; refine (HSHD.out _ HB15.out).mono ?_; rintro x16 w16 ⟨rfl, hb16⟩)
  go_ret
  refine ⟨rfl, ?_⟩
  have h15 := HB9'.out.trans (HB15.out.mono HB9'.out.size)
  exact h15.trans (hb16.mono h15.size)
end Go.Proofs.Qxb6603644a
