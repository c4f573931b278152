/-
  THE LAW FnApplyHoldsLastPutOfEachID (3).
-/
import Derived.Test.Qxb6603644aSteps
import Derived.Test.Qxb6603644aSame
import Derived.Test.Qxb6603644aBytes5
namespace Go.Proofs.Qxb6603644a
open Go.RowKit Go.Shelf

theorem flatMap_at {α : Type} (f : α → List Value) (k : Nat) (hf : ∀ x, (f x).length = k) : ∀ (l : List α) (i r : Nat) (x : α), l[i]? = some x → r < k → (l.flatMap f)[i * k + r]? = (f x)[r]?
  | [], i, r, x, h, _ => by simp at h
  | y :: l, 0, r, x, h, hr => by
    simp at h
    subst h
    rw [List.flatMap_cons, Nat.zero_mul, Nat.zero_add, List.getElem?_append_left (by rw [hf]; exact hr)]
  | y :: l, i + 1, r, x, h, hr => by
    rw [List.flatMap_cons, List.getElem?_append_right (by rw [hf, Nat.add_mul]; omega), hf, show (i + 1) * k + r - k = i * k + r by rw [Nat.add_mul]; omega]
    exact flatMap_at f k hf l i r x (by simpa using h) hr
theorem own_form {w : World} {B : Nat} {e : TypeId} {size n : Nat} {v : Value} {xs : List Value} (h : w.ownsRow B e size v n xs) : ∃ ao b cap, v = .slice ao n cap ∧ (n = 0 ∨ ao = some ⟨b, 0, none⟩) ∧ (n = 0 ∨ ∀ j u, xs[j]? = some u → w.cell? ⟨b, j, none⟩ = some u) := by
  rcases h.2 with ⟨rfl, rfl⟩ | ⟨g, cap, cur, rfl, _⟩
  · exact ⟨none, 0, 0, rfl, .inl rfl, .inl rfl⟩
  · refine ⟨_, g, cap, rfl, .inr rfl, .inr fun j u hj => ?_⟩
    have := h.cells (g := g) rfl j u hj
    rw [Addr.add_mid, Nat.zero_add] at this
    exact this
theorem own_rows {α : Type} {f : α → List Value} {k : Nat} (hf : ∀ x, (f x).length = k) {w : World} {b : Nat} {l : List α} (h : ∀ j u, (l.flatMap f)[j]? = some u → w.cell? ⟨b, j, none⟩ = some u) (i : Nat) (x : α) (hx : l[i]? = some x) : w.rangeAt b (i * k) (f x) := by
  intro j u hu
  have hj : j < k := by rw [← hf x]; exact (List.getElem?_eq_some_iff.1 hu).1
  exact h _ _ ((flatMap_at f k hf l i j x hx hj).trans hu)

/-- zzSameList on what zzCollect and zzModel hand over -/
theorem same_own {w0 w1 w : World} {v1 v2 : Value} {zs : List Z} (hk : zs.length ≤ 16384) (h1 : w.ownsRow w0.heap.size 68 19 v1 (zs.map toR).length ((zs.map toR).flatMap encG)) (h2 : w.ownsRow w1.heap.size 41 21 v2 zs.length (zs.flatMap encZ)) :
    ∃ ao co cap cap2, v1 = .slice ao zs.length cap ∧ v2 = .slice co zs.length cap2 ∧ Calls Try.prog 12 #[.slice ao zs.length cap, .slice co zs.length cap2] w fun x w' => x = .returned (.bool true) ∧ Below w.heap.size w w' := by
  obtain ⟨ao, b, cap, rfl, a1, a2⟩ := own_form h1
  obtain ⟨co, c, cap2, rfl, b1, b2⟩ := own_form h2
  rw [List.length_map] at a1 a2 ⊢
  refine ⟨ao, co, cap, cap2, rfl, rfl, sameList_any ao co b c zs.length cap cap2 zs w a1 b1 rfl hk (fun i hi => ?_) (fun i hi => ?_)⟩
  · rw [List.length_map] at hi
    have e : (zs.map toR)[i]? = some (rAt (zs.map toR) i) := by
      unfold rAt
      rw [List.getD_eq_getElem?_getD, List.getElem?_eq_getElem (by rw [List.length_map]; exact hi)]
      rfl
    exact own_rows (f := encG) (k := 19) (fun _ => rfl) (a2.resolve_left (by omega)) i _ e
  · have e : zs[i]? = some (zAt zs i) := by rw [zAt_eq hi, List.getElem?_eq_getElem hi]
    rw [Nat.zero_add]
    exact own_rows (f := encZ) (k := 21) (fun _ => rfl) (b2.resolve_left (by omega)) i _ e

theorem oneHash_of {zs : List Z} (h : OneZ zs) : OneHash (zs.map toR) := by
  intro a ha b hb e
  obtain ⟨x, hx, rfl⟩ := List.mem_map.1 ha
  obtain ⟨y, hy, rfl⟩ := List.mem_map.1 hb
  exact h x hx y hy e

set_option maxRecDepth 10000 in
set_option maxHeartbeats 4000000 in
theorem law3 {w : World} {ao1 ao2 : Option Addr} {n c1 b1 o1 m c2 b2 o2 : Nat} {bs cs : List Z} {sh : Int} (h1 : RowIn w ao1 n c1 b1 o1 bs) (h2 : RowIn w ao2 m c2 b2 o2 cs) (sz1 : ∀ z ∈ bs, SzZ z) (sz2 : ∀ z ∈ cs, SzZ z) (hr1 : ∀ z ∈ bs, HrZ z) (hr2 : ∀ z ∈ cs, HrZ z) :
    Calls Try.prog 3 #[.slice ao1 n c1, .slice ao2 m c2, .int .i64 sh] w fun x w' => x = .returned (.bool true) ∧ Below w.heap.size w w' := by
  have hc5 := zzBytes5_any ao1 ao2 b1 o1 n c1 b2 o2 m c2 bs cs (.int .i64 sh) w h1.hao h2.hao h1.1 h2.1 h1.2.2 h2.2.2
  by_cases hn4 : n ≤ 4096
  case neg =>
    have hn5 : 4096 < n := by omega
    clear h1 h2 sz1 sz2 hr1 hr2
    go_enter Try.func3, Try.ntmps3
    go_wp2_with (go_at_call 5; refine hc5.mono ?_; rintro x0 w ⟨⟨r0, rfl, _⟩, rfl⟩; cases r0)
    all_goals
      go_ret
      exact ⟨rfl, Below.refl _ _⟩
  by_cases hm4 : m ≤ 4096
  case neg =>
    have hn5 : ¬ 4096 < n := by omega
    have hm5 : 4096 < m := by omega
    clear h1 h2 sz1 sz2 hr1 hr2
    go_enter Try.func3, Try.ntmps3
    go_wp2_with (go_at_call 5; refine hc5.mono ?_; rintro x0 w ⟨⟨r0, rfl, _⟩, rfl⟩; cases r0)
    all_goals
      go_ret
      exact ⟨rfl, Below.refl _ _⟩
  have hn5 : ¬ 4096 < n := by omega
  have hm5 : ¬ 4096 < m := by omega
  have H1 : Hid (RowIn w ao1 n c1 b1 o1 bs) := h1
  have H2 : Hid (RowIn w ao2 m c2 b2 o2 cs) := h2
  have HR1 : Hid (∀ z ∈ bs, HrZ z) := hr1
  have HR2 : Hid (∀ z ∈ cs, HrZ z) := hr2
  have hc6a := bytes_any ao1 b1 o1 n c1 bs w h1.hao h1.1 (by omega) h1.2.2 sz1
  have hc6b := fun w' (h : Below w.heap.size w w') => bytes_any ao2 b2 o2 m c2 cs w' h2.hao h2.1 (by omega) (h2.2.2.later h) sz2
  have hc7 := fun w' (h : Below w.heap.size w w') => domain_any ao1 ao2 b1 o1 n c1 b2 o2 m c2 sh bs cs w' h1.hao h2.hao h1.1 h2.1 (by omega) (by omega) (h1.2.2.later h) (h2.2.2.later h) hr1 hr2
  have hc8a := fun w' (h : Below w.heap.size w w') => clone_any (h1.later h) (by omega)
  have hc8b := fun w' (h : Below w.heap.size w w') => clone_any (h2.later h) (by omega)
  have HC6B : Hid (∀ w' (_ : Below w.heap.size w w'), Calls Try.prog 6 #[.slice ao2 m c2] w' fun x w'' => BytesPost cs x ∧ Below w'.heap.size w' w'') := hc6b
  have HC7 : Hid (∀ w' (_ : Below w.heap.size w w'), Calls Try.prog 7 #[.slice ao1 n c1, .slice ao2 m c2, .int .i64 sh] w' fun x w'' => Says (∃ d, DomZ bs cs sh d) x ∧ Below w'.heap.size w' w'') := hc7
  have HC8A : Hid (∀ w' (_ : Below w.heap.size w w'), Calls Try.prog 8 #[.slice ao1 n c1] w' fun x w'' => ∃ ao' A cap', x = .returned (.slice ao' n cap') ∧ (n = 0 ∨ ao' = some ⟨A, 0, none⟩) ∧ ZRow w'' A 0 bs ∧ Below w'.heap.size w' w'') := hc8a
  have HC8B : Hid (∀ w' (_ : Below w.heap.size w w'), Calls Try.prog 8 #[.slice ao2 m c2] w' fun x w'' => ∃ ao' A cap', x = .returned (.slice ao' m cap') ∧ (m = 0 ∨ ao' = some ⟨A, 0, none⟩) ∧ ZRow w'' A 0 cs ∧ Below w'.heap.size w' w'') := hc8b
  clear h1 h2 sz1 sz2 hr1 hr2 hc6b hc7 hc8a hc8b
  go_enter Try.func3, Try.ntmps3
  go_upto_region 5 with (go_at_call 5; refine hc5.mono ?_; rintro x0 w ⟨⟨r0, rfl, _⟩, rfl⟩; cases r0)
  · go_ret
    exact ⟨rfl, Below.refl _ _⟩
  clear hc5
  go_upto_region 7 with (first
    | (go_at_call_of 6 (Value.slice ao1 n c1); refine hc6a.mono ?_; rintro x1 w1 ⟨⟨t1, rfl, ht1, hs1⟩, hb1⟩; have HS1 : Hid (t1 ≤ 1048576 → ∀ z ∈ bs, SmZ z) := hs1; clear hs1)
    | (go_at_call_of 6 (Value.slice ao2 m c2); refine (HC6B.out _ hb1).mono ?_; rintro x2 w2 ⟨⟨t2, rfl, ht2, hs2⟩, hb2⟩; have HS2 : Hid (t2 ≤ 1048576 → ∀ z ∈ cs, SmZ z) := hs2; clear hs2))
  · go_ret
    exact ⟨rfl, hb1.trans (hb2.mono hb1.size)⟩
  have hB2 : Below w.heap.size w w2 := hb1.trans (hb2.mono hb1.size)
  have hsm1 : Hid (∀ z ∈ bs, SmZ z) := HS1.out (by omega)
  have hsm2 : Hid (∀ z ∈ cs, SmZ z) := HS2.out (by omega)
  have HB2 : Hid (Below w.heap.size w w2) := hB2
  clear hb1 hb2 hB2 HS1 HS2 hc6a HC6B
  go_upto_region 9 with (go_at_call 7; refine (HC7.out _ HB2.out).mono ?_; rintro x3 w3 ⟨⟨r3, rfl, hd3⟩, hb3⟩; have HD3 : Hid (r3 = true → ∃ d, DomZ bs cs sh d) := hd3; clear hd3; cases r3)
  · go_ret
    exact ⟨rfl, HB2.out.trans (hb3.mono HB2.out.size)⟩
  have HB3 : Hid (Below w.heap.size w w3) := HB2.out.trans (hb3.mono HB2.out.size)
  obtain ⟨d, hD⟩ := HD3.out (by trivial)
  have HD : Hid (DomZ bs cs sh d) := hD
  clear hD HD3 hb3 HB2 HC7
  go_upto_region 11 with (first
    | (go_at_call_of 8 (Value.slice ao1 n c1); refine (HC8A.out _ HB3.out).mono ?_; rintro x4 w4 ⟨ao3, A1, c3, rfl, hao3, hz4, hb4⟩)
    | (go_at_call_of 8 (Value.slice ao2 m c2); refine (HC8B.out _ (HB3.out.trans (hb4.mono HB3.out.size))).mono ?_; rintro x5 w5 ⟨ao4, A2, c4, rfl, hao4, hz5, hb5⟩))
  have HB5 : Hid (Below w.heap.size w w5) := by
    have h4 := HB3.out.trans (hb4.mono HB3.out.size)
    exact h4.trans (hb5.mono h4.size)
  have HZ1 : Hid (ZRow w5 A1 0 bs) := hz4.later hb5
  have HZ2 : Hid (ZRow w5 A2 0 cs) := hz5
  have HAO3 : Hid (n = 0 ∨ ao3 = some ⟨A1, 0, none⟩) := hao3
  have HAO4 : Hid (m = 0 ∨ ao4 = some ⟨A2, 0, none⟩) := hao4
  clear hz4 hz5 hb4 hb5 hao3 hao4 HC8A HC8B HB3
  obtain ⟨P, hP⟩ : ∃ P, refZ bs cs / 2 ^ (4 * d) = P := ⟨_, rfl⟩
  have hL1 : Hid (ListOK bs d P) := ⟨strict_sorted HD.out.s1, fun z hz => (HD.out.pre z (List.mem_append_left _ hz)).trans hP, hsm1.out, HR1.out⟩
  have hL2 : Hid (ListOK cs d P) := ⟨strict_sorted HD.out.s2, fun z hz => (HD.out.pre z (List.mem_append_right _ hz)).trans hP, hsm2.out, HR2.out⟩
  have hone : Hid (OneHash ((bs ++ cs).map toR)) := oneHash_of HD.out.one
  have hone1 : Hid (OneHash (bs.map toR)) := fun a ha b hb => hone.out a (by rw [List.map_append]; exact List.mem_append_left _ ha) b (by rw [List.map_append]; exact List.mem_append_left _ hb)
  clear hP hsm1 hsm2
  have hmk1 := make_any (cap := c3) HAO3.out H1.out.1 (by omega) HZ1.out
  go_upto_region 12 with (first
    | (go_at_call 10; refine hmk1.mono ?_; rintro x6 w6 ⟨rfl, hM6⟩; have hap := apply_first hM6 H1.out.1 hn4 HD.out.d16 hL1.out hone1.out; rw [← HD.out.sh] at hap)
    | (go_at_call 9; refine hap.mono ?_; rintro x7 w7 ⟨t1, rfl, hA1, hT1, hb7⟩))
  have hB7 : Below w5.heap.size w5 w7 := hM6.below.trans (hb7.mono (by omega))
  have e1 : (bs.map ofZ).map K.r = bs.map toR := by rw [List.map_map]; rfl
  obtain ⟨g1, m1, k1⟩ := ap_good0 d P _ t1 hL1.out.srt (fun k hk => by obtain ⟨z, hz, rfl⟩ := List.mem_map.1 hk; exact hL1.out.pre z hz) (by rw [e1]; exact hone1.out) hA1
  rw [List.length_map, H1.out.1] at k1
  have hsub : ∀ r ∈ t1.collect, r ∈ bs.map toR := fun r hr => by
    obtain ⟨k, hk, _, _, rfl⟩ := (m1 r).1 hr
    obtain ⟨z, hz, rfl⟩ := List.mem_map.1 hk
    exact List.mem_map_of_mem (f := toR) hz
  have hone2 : Hid (OneHash (t1.collect ++ cs.map toR)) := by
    have hs : ∀ r ∈ t1.collect ++ cs.map toR, r ∈ (bs ++ cs).map toR := fun r hr => by
      rw [List.map_append]
      rcases List.mem_append.1 hr with h | h
      · exact List.mem_append_left _ (hsub r h)
      · exact List.mem_append_right _ h
    exact fun a ha b hb => hone.out a (hs a ha) b (hs b hb)
  have hrr : Hid (∀ r ∈ t1.collect, 0 ≤ r.hash ∧ r.hash < 18446744073709551616) := fun r hr => by
    obtain ⟨z, hz, rfl⟩ := List.mem_map.1 (hsub r hr)
    exact HR1.out z hz
  have G1 : Hid (Good t1 d P) := g1
  have HT1 : Hid (IsT w7 (fun _ => False) t1) := hT1
  have HA1 : Hid (ApR d .nil (bs.map ofZ) t1) := hA1
  have HB7 : Hid (Below w5.heap.size w5 w7) := hB7
  have hmk2 := make_any (cap := c4) HAO4.out H2.out.1 (by omega) (HZ2.out.later hB7)
  clear hmk1 hap hM6 hb7 hB7 e1 g1 m1 hsub hT1 hA1
  go_upto_region 13 with (first
    | (go_at_call 10; refine hmk2.mono ?_; rintro x8 w8 ⟨rfl, hM8⟩; have hap2 := apply_second hM8 H2.out.1 hm4 HD.out.d16 hL2.out HD.out.seq hone2.out G1.out HT1.out (by omega) hrr.out; rw [← HD.out.sh] at hap2)
    | (go_at_call 9; refine hap2.mono ?_; rintro x9 w9 ⟨t2, rfl, hA2, hT2, hb9⟩))
  have HB9 : Hid (Below w7.heap.size w7 w9) := hM8.below.trans (hb9.mono (by omega))
  obtain ⟨_, g2, _, _, _, hcol⟩ := plain_law H1.out.1 H2.out.1 hL1.out.srt hL2.out.srt hL1.out.pre hL2.out.pre HD.out.seq hone.out HA1.out hA2
  obtain ⟨M, hM⟩ : ∃ M, mdl (n + m) bs cs = M := ⟨_, rfl⟩
  have hMl : M.length ≤ 8192 := by
    have := mdl_len (n + m) bs cs
    rw [hM] at this
    omega
  rw [hM] at hcol
  have HCOL : Hid (t2.collect = M.map toR) := hcol
  have hcoll := coll_any t2 d P 0 g2 (by have := HD.out.d16; omega) w9 (.slice none 0 0) [] w9 hT2 ⟨World.ownsRow_nil _ _ _ _, Below.refl _ _⟩ (by rw [hcol, List.length_map]; simp; omega)
  have hcoll' : Calls Try.prog 11 #[.pointer t2.ptr, .int .i64 0, .slice none 0 0] w9 fun x W' => ∃ v', x = .returned (.tuple #[v', .bool true]) ∧ CO w9 v' ([] ++ t2.collect) W' := hcoll
  have hZ9 : Hid (ZRow w9 A1 0 bs ∧ ZRow w9 A2 0 cs) := ⟨(HZ1.out.later HB7.out).later HB9.out, (HZ2.out.later HB7.out).later HB9.out⟩
  have hmod := fun w10 (h : Below w9.heap.size w9 w10) => model_any ao3 ao4 A1 0 n c3 A2 0 m c4 bs cs w10 HAO3.out HAO4.out H1.out.1 H2.out.1 (by omega) (by omega) (hZ9.out.1.later h) (hZ9.out.2.later h)
  rw [hM] at hmod
  have HMOD : Hid (∀ w10 (_ : Below w9.heap.size w9 w10), Calls Try.prog 13 #[.slice ao3 n c3, .slice ao4 m c4] w10 fun x w' => ∃ v, x = .returned v ∧ w'.ownsRow w10.heap.size 41 21 v M.length (M.flatMap encZ) ∧ Below w10.heap.size w10 w') := hmod
  have HB9' : Hid (Below w.heap.size w w9) := by
    have h7 := HB5.out.trans (HB7.out.mono HB5.out.size)
    exact h7.trans (HB9.out.mono h7.size)
  clear hmk2 hap2 hM8 hb9 g2 hcol hM hcoll hmod hA2 hT2 G1 HT1 HA1 hone hone1 hone2 hrr hL1 hL2 HZ1 HZ2 HB7 HB9 HB5 hZ9 H1 H2 HR1 HR2 HAO3 HAO4
  go_upto_region 16 with (go_at_call 11; refine hcoll'.mono ?_; rintro x10 w10 ⟨v1, rfl, hC10⟩)
  have hown1 : w10.ownsRow w9.heap.size 68 19 v1 (M.map toR).length ((M.map toR).flatMap encG) := by
    have := hC10.own
    rw [List.nil_append, HCOL.out] at this
    exact this
  have HO1 : Hid (w10.ownsRow w9.heap.size 68 19 v1 (M.map toR).length ((M.map toR).flatMap encG)) := hown1
  have HB10 : Hid (Below w9.heap.size w9 w10) := hC10.below
  clear hown1 hC10 hcoll'
  go_wp2_with (first
    | (go_at_call 13; refine (HMOD.out _ HB10.out).mono ?_; rintro x11 w11 ⟨v2, rfl, hown2, hb11⟩; obtain ⟨ao5, co5, cp5, cq5, e1, e2, hsame⟩ := same_own (by omega) (own_later HO1.out hb11) hown2; subst e1 e2)
    | (go_at_call 12; refine hsame.mono ?_; rintro x12 w12 ⟨rfl, hb12⟩))
  go_ret
  refine ⟨rfl, ?_⟩
  have h10 := HB9'.out.trans (HB10.out.mono HB9'.out.size)
  have h11 := h10.trans (hb11.mono h10.size)
  exact h11.trans (hb12.mono h11.size)
end Go.Proofs.Qxb6603644a
