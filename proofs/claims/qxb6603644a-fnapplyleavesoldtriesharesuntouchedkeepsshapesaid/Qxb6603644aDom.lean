/-
  THE WALK of zzApplyDomain (7).
-/
import Derived.Test.Qxb6603644aOne
import Derived.Test.Qxb6603644aRef
import Derived.Deep.RegionWith
namespace Go.Proofs.Qxb6603644a
open Go.RowKit Go.Shelf

/-- a hash of 64 bits -/
def HrZ (z : Z) : Prop := 0 ≤ z.hash ∧ z.hash < 18446744073709551616
structure DomZ (bs cs : List Z) (sh : Int) (d : Nat) : Prop where
  sh : sh = ((4 * d : Nat) : Int)
  d16 : d ≤ 16
  s1 : Strict bs
  s2 : Strict cs
  seq : ∀ z ∈ cs, 0 ≤ z.seq
  pre : ∀ z ∈ bs ++ cs, z.hash / 2 ^ (4 * d) = refZ bs cs / 2 ^ (4 * d)
  one : OneZ (bs ++ cs)
theorem all_zAt {zs : List Z} {n : Nat} {p : Z → Prop} (hn : zs.length = n) (h : ∀ j, j < n → p (zAt zs j)) : ∀ z ∈ zs, p z := fun z hz => by
  obtain ⟨j, hj, rfl⟩ := List.mem_iff_getElem.1 hz
  have := h j (by omega)
  unfold zAt at this
  rw [List.getD_eq_getElem?_getD, List.getElem?_eq_getElem hj] at this
  exact this
theorem ref_range {bs cs : List Z} (h1 : ∀ z ∈ bs, HrZ z) (h2 : ∀ z ∈ cs, HrZ z) : 0 ≤ refZ bs cs ∧ refZ bs cs < 18446744073709551616 := by
  unfold refZ
  split
  · exact h1 _ (zAt_mem (by omega))
  · split
    · exact h2 _ (zAt_mem (by omega))
    · omega

set_option maxRecDepth 10000 in
set_option maxHeartbeats 4000000 in
theorem domain_any (ao co : Option Addr) (b off n cap c off2 m cap2 : Nat) (sh : Int) (bs cs : List Z) (w : World) (hao : n = 0 ∨ ao = some ⟨b, off, none⟩) (hco : m = 0 ∨ co = some ⟨c, off2, none⟩) (hn : bs.length = n) (hm : cs.length = m) (hnb : n ≤ 8192) (hmb : m ≤ 8192) (hb : ZRow w b off bs) (hc : ZRow w c off2 cs) (hr1 : ∀ z ∈ bs, HrZ z) (hr2 : ∀ z ∈ cs, HrZ z) :
    Calls Try.prog 7 #[.slice ao n cap, .slice co m cap2, .int .i64 sh] w fun x w' => Says (∃ d, DomZ bs cs sh d) x ∧ Below w.heap.size w w' := by
  by_cases h0 : sh < 0
  · clear hao hco hn hm hnb hmb hb hc hr1 hr2
    go_enter Try.func7, Try.ntmps7
    go_wp2
    go_ret
    exact ⟨⟨false, rfl, fun h => by cases h⟩, Below.refl _ _⟩
  by_cases h64 : 64 < sh
  · clear hao hco hn hm hnb hmb hb hc hr1 hr2
    go_enter Try.func7, Try.ntmps7
    go_wp2
    go_ret
    exact ⟨⟨false, rfl, fun h => by cases h⟩, Below.refl _ _⟩
  obtain ⟨s, rfl⟩ : ∃ s : Nat, sh = (s : Int) := ⟨sh.toNat, by omega⟩
  by_cases h4 : s % 4 = 0
  case neg =>
    clear hao hco hn hm hnb hmb hb hc hr1 hr2
    have hmod : ((s : Int).tmod 4 != 0) = true := by
      rw [show (s : Int).tmod 4 = ((s % 4 : Nat) : Int) from rfl]
      simp
      omega
    go_enter Try.func7, Try.ntmps7
    go_wp2
    go_ret
    exact ⟨⟨false, rfl, fun h => by cases h⟩, Below.refl _ _⟩
  have hmod : ((s : Int).tmod 4 != 0) = false := by
    rw [show (s : Int).tmod 4 = ((s % 4 : Nat) : Int) from rfl]
    simp
    omega
  have HB : Hid (ZRow w b off bs) := hb
  have HC : Hid (ZRow w c off2 cs) := hc
  have HN : Hid (bs.length = n) := hn
  have HM : Hid (cs.length = m) := hm
  have HR1 : Hid (∀ z ∈ bs, HrZ z) := hr1
  have HR2 : Hid (∀ z ∈ cs, HrZ z) := hr2
  have hs64 : s ≤ 64 := by omega
  have hrr := ref_range hr1 hr2
  obtain ⟨R, hR⟩ : ∃ R, refZ bs cs = R := ⟨_, rfl⟩
  rw [hR] at hrr
  have HR : Hid (refZ bs cs = R) := hR
  obtain ⟨hR0, hR1⟩ := hrr
  have hst1 := fun w' (h : Below w.heap.size w w') => strict_any ao b off n cap bs w' hao hn (by omega) (hb.later h)
  have hst2 := fun w' (h : Below w.heap.size w w') => strict_any co c off2 m cap2 cs w' hco hm (by omega) (hc.later h)
  have hrf := fun w' (h : Below w.heap.size w w') => ref_any ao co b off n cap c off2 m cap2 bs cs w' hao hco hn hm (hb.later h) (hc.later h)
  have hoh := fun w' (h : Below w.heap.size w w') => oneHash_any ao co b off n cap c off2 m cap2 bs cs w' hao hco hn hm hnb hmb (hb.later h) (hc.later h)
  rw [hR] at hrf
  have HST1 : Hid (∀ w' (_ : Below w.heap.size w w'), Calls Try.prog 19 #[.slice ao n cap] w' fun x w'' => Says (Strict bs) x ∧ Below w'.heap.size w' w'') := hst1
  have HST2 : Hid (∀ w' (_ : Below w.heap.size w w'), Calls Try.prog 19 #[.slice co m cap2] w' fun x w'' => Says (Strict cs) x ∧ Below w'.heap.size w' w'') := hst2
  have HRF : Hid (∀ w' (_ : Below w.heap.size w w'), Calls Try.prog 15 #[.slice ao n cap, .slice co m cap2] w' fun x w'' => x = .returned (.int .u64 R) ∧ w'' = w') := hrf
  have HOH : Hid (∀ w' (_ : Below w.heap.size w w'), Calls Try.prog 21 #[.slice ao n cap, .slice co m cap2] w' fun x w'' => Says (OneZ (bs ++ cs)) x ∧ Below w'.heap.size w' w'') := hoh
  clear hst1 hst2 hrf hoh hR hb hc hn hm hr1 hr2
  go_enter Try.func7, Try.ntmps7
  go_upto_region 3 with fail
  go_upto_region 6 with (first
    | (go_at_call_of 19 (Value.slice ao n cap); refine (HST1.out _ (Below.refl _ _)).mono ?_; rintro x1 w1 ⟨⟨r1, rfl, hq1⟩, hb1⟩; have HQ1 : Hid (r1 = true → Strict bs) := hq1; clear hq1; cases r1)
    | (go_at_call_of 19 (Value.slice co m cap2); refine (HST2.out _ hb1).mono ?_; rintro x2 w2 ⟨⟨r2, rfl, hq2⟩, hb2⟩; have HQ2 : Hid (r2 = true → Strict cs) := hq2; clear hq2; cases r2))
  · go_ret
    exact ⟨⟨false, rfl, fun h => by cases h⟩, hb1⟩
  · go_ret
    exact ⟨⟨false, rfl, fun h => by cases h⟩, hb1.trans (hb2.mono hb1.size)⟩
  have hB : Hid (Below w.heap.size w w2) := hb1.trans (hb2.mono hb1.size)
  clear hb1 hb2
  go_loopw [7] (fun i wr => ∃ q : Nat, q ≤ m ∧ i = .int .i64 q ∧ Hid (∀ j, j < q → 0 ≤ (zAt cs j).seq) ∧ Hid (Below w.heap.size w wr)) (fun i _ => m - (intOf i).toNat)
  case atStart => exact ⟨0, Nat.zero_le _, rfl, fun j hj => absurd hj (by omega), hB⟩
  case round =>
    clear hB
    obtain ⟨q, hq, rfl, hall, hB⟩ := hrel
    by_cases hlt : q < m
    · obtain rfl : co = some ⟨c, off2, none⟩ := hco.resolve_left (by omega)
      have hx := (HC.out.later hB.out) q (by rw [HM.out]; exact hlt) 1 _ rfl
      obtain ⟨h, hh⟩ : ∃ h, (zAt cs q).seq = h := ⟨_, rfl⟩
      rw [hh] at hx
      have HH : Hid ((zAt cs q).seq = h) := hh
      clear hh
      have hqI : (q : Int) < (m : Int) := by omega
      by_cases he : h < 0
      · go_wp2
        go_ret
        exact ⟨⟨false, rfl, fun h => by cases h⟩, hB.out⟩
      · have hd : decide (h < 0) = false := by simpa using he
        go_wp2
        go_roundw
        case rel =>
          refine ⟨q + 1, hlt, by go_num, fun j hj => ?_, hB⟩
          by_cases e : j = q
          · rw [e, HH.out]
            omega
          · exact hall.out j (by omega)
        case measure => simp [intOf]; omega
    · obtain rfl : q = m := by omega
      have hseq : Hid (∀ z ∈ cs, 0 ≤ z.seq) := all_zAt HM.out hall.out
      go_upto_region 12 with (go_at_call 15; refine (HRF.out _ hB.out).mono ?_; rintro x3 w3 ⟨rfl, rfl⟩)
      clear hall hq hlt
      obtain ⟨m, rfl⟩ : ∃ m, m = q := ⟨_, rfl⟩
      go_loopw [9] (fun i wr => ∃ q : Nat, q ≤ n ∧ i = .int .i64 q ∧ Hid (∀ j, j < q → (zAt bs j).hash / 2 ^ s = R / 2 ^ s) ∧ Hid (Below w.heap.size w wr)) (fun i _ => n - (intOf i).toNat)
      case atStart => exact ⟨0, Nat.zero_le _, rfl, fun j hj => absurd hj (by omega), hB⟩
      case round =>
        clear hB
        obtain ⟨q, hq, rfl, hall, hB⟩ := hrel
        by_cases hlt : q < n
        · obtain rfl : ao = some ⟨b, off, none⟩ := hao.resolve_left (by omega)
          have hx := (HB.out.later hB.out) q (by rw [HN.out]; exact hlt) 0 _ rfl
          have hz := HR1.out _ (zAt_mem (zs := bs) (i := q) (by rw [HN.out]; exact hlt))
          obtain ⟨h, hh⟩ : ∃ h, (zAt bs q).hash = h := ⟨_, rfl⟩
          unfold HrZ at hz
          rw [hh] at hx hz
          rw [Nat.add_zero] at hx
          have HH : Hid ((zAt bs q).hash = h) := hh
          obtain ⟨hz0, hz1⟩ := hz
          obtain ⟨X, hX⟩ : ∃ X, h / 2 ^ s = X := ⟨_, rfl⟩
          obtain ⟨Y, hY⟩ : ∃ Y, R / 2 ^ s = Y := ⟨_, rfl⟩
          have hc1 := fun w => zzHigh_any h s w hz0 hz1 hs64
          have hc2 := fun w => zzHigh_any R s w hR0 hR1 hs64
          rw [hX] at hc1
          rw [hY] at hc2
          have HX : Hid (h / 2 ^ s = X) := hX
          have HY : Hid (R / 2 ^ s = Y) := hY
          clear hh hX hY
          have hqI : (q : Int) < (n : Int) := by omega
          by_cases he : X = Y
          · subst he
            go_upto_region 14 with fail
            go_wp2_with (first
              | (go_at_call_of 20 (Value.int .u64 h); refine (hc1 _).mono ?_; rintro x4 w4 ⟨rfl, rfl⟩)
              | (go_at_call_of 20 (Value.int .u64 R); refine (hc2 _).mono ?_; rintro x5 w5 ⟨rfl, rfl⟩))
            go_roundw
            case rel =>
              refine ⟨q + 1, hlt, by go_num, fun j hj => ?_, hB⟩
              by_cases e : j = q
              · rw [e, HH.out, HX.out, HY.out]
              · exact hall.out j (by omega)
            case measure => simp [intOf]; omega
          · have hne : (X != Y) = true := by simpa using he
            go_upto_region 14 with fail
            go_wp2_with (first
              | (go_at_call_of 20 (Value.int .u64 h); refine (hc1 _).mono ?_; rintro x4 w4 ⟨rfl, rfl⟩)
              | (go_at_call_of 20 (Value.int .u64 R); refine (hc2 _).mono ?_; rintro x5 w5 ⟨rfl, rfl⟩))
            go_ret
            exact ⟨⟨false, rfl, fun h => by cases h⟩, hB.out⟩
        · obtain rfl : q = n := by omega
          have hp1 : Hid (∀ z ∈ bs, z.hash / 2 ^ s = R / 2 ^ s) := all_zAt HN.out hall.out
          go_upto_region 17 with fail
          clear hall hq hlt
          obtain ⟨n, rfl⟩ : ∃ n, n = q := ⟨_, rfl⟩
          go_loopw [10] (fun i wr => ∃ q : Nat, q ≤ m ∧ i = .int .i64 q ∧ Hid (∀ j, j < q → (zAt cs j).hash / 2 ^ s = R / 2 ^ s) ∧ Hid (Below w.heap.size w wr)) (fun i _ => m - (intOf i).toNat)
          case atStart => exact ⟨0, Nat.zero_le _, rfl, fun j hj => absurd hj (by omega), hB⟩
          case round =>
            clear hB
            obtain ⟨q, hq, rfl, hall, hB⟩ := hrel
            by_cases hlt : q < m
            · obtain rfl : co = some ⟨c, off2, none⟩ := hco.resolve_left (by omega)
              have hx := (HC.out.later hB.out) q (by rw [HM.out]; exact hlt) 0 _ rfl
              have hz := HR2.out _ (zAt_mem (zs := cs) (i := q) (by rw [HM.out]; exact hlt))
              obtain ⟨h, hh⟩ : ∃ h, (zAt cs q).hash = h := ⟨_, rfl⟩
              unfold HrZ at hz
              rw [hh] at hx hz
              rw [Nat.add_zero] at hx
              have HH : Hid ((zAt cs q).hash = h) := hh
              obtain ⟨hz0, hz1⟩ := hz
              obtain ⟨X, hX⟩ : ∃ X, h / 2 ^ s = X := ⟨_, rfl⟩
              obtain ⟨Y, hY⟩ : ∃ Y, R / 2 ^ s = Y := ⟨_, rfl⟩
              have hc1 := fun w => zzHigh_any h s w hz0 hz1 hs64
              have hc2 := fun w => zzHigh_any R s w hR0 hR1 hs64
              rw [hX] at hc1
              rw [hY] at hc2
              have HX : Hid (h / 2 ^ s = X) := hX
              have HY : Hid (R / 2 ^ s = Y) := hY
              clear hh hX hY
              have hqI : (q : Int) < (m : Int) := by omega
              by_cases he : X = Y
              · subst he
                go_upto_region 19 with fail
                go_wp2_with (first
                  | (go_at_call_of 20 (Value.int .u64 h); refine (hc1 _).mono ?_; rintro x4 w4 ⟨rfl, rfl⟩)
                  | (go_at_call_of 20 (Value.int .u64 R); refine (hc2 _).mono ?_; rintro x5 w5 ⟨rfl, rfl⟩))
                go_roundw
                case rel =>
                  refine ⟨q + 1, hlt, by go_num, fun j hj => ?_, hB⟩
                  by_cases e : j = q
                  · rw [e, HH.out, HX.out, HY.out]
                  · exact hall.out j (by omega)
                case measure => simp [intOf]; omega
              · have hne : (X != Y) = true := by simpa using he
                go_upto_region 19 with fail
                go_wp2_with (first
                  | (go_at_call_of 20 (Value.int .u64 h); refine (hc1 _).mono ?_; rintro x4 w4 ⟨rfl, rfl⟩)
                  | (go_at_call_of 20 (Value.int .u64 R); refine (hc2 _).mono ?_; rintro x5 w5 ⟨rfl, rfl⟩))
                go_ret
                exact ⟨⟨false, rfl, fun h => by cases h⟩, hB.out⟩
            · obtain rfl : q = m := by omega
              have hp2 : Hid (∀ z ∈ cs, z.hash / 2 ^ s = R / 2 ^ s) := all_zAt HM.out hall.out
              go_wp2_with (go_at_call 21; refine (HOH.out _ hB.out).mono ?_; rintro x6 w6 ⟨⟨r6, rfl, hq6⟩, hb6⟩)
              go_ret
              refine ⟨⟨r6, rfl, fun hr => ?_⟩, hB.out.trans (hb6.mono hB.out.size)⟩
              obtain ⟨d, rfl⟩ : ∃ d, s = 4 * d := ⟨s / 4, by omega⟩
              refine ⟨d, rfl, by omega, HQ1.out (by trivial), HQ2.out (by trivial), hseq.out, fun z hz => ?_, hq6 hr⟩
              rw [HR.out]
              rcases List.mem_append.1 hz with h | h
              · exact hp1.out z h
              · exact hp2.out z h
end Go.Proofs.Qxb6603644a
