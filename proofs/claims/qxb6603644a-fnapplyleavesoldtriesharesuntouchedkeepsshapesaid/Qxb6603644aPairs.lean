/-
  THE WALK of zzSortPairs (37).
-/
import Derived.Test.Qxb6603644aPairsP
import Derived.Test.Qxb6603644aGlue
import Derived.Deep.DeepCutAuto
import Derived.Deep.CutBlock
namespace Go.Proofs.Qxb6603644a
open Go.RowKit Go.Shelf

theorem Try.size76 : (Try.prog.info? 76).map (·.size) = some 2 := by kernel_rfl
theorem Try.info76 : (Try.prog.info? 76).map (fun i => (i.zero, i.size, i.bytes)) = some (some (.agg #[.string ⟨#[]⟩, .int .u64 0]), 2, 24) := by kernel_rfl
def encP (p : Pr) : List Value := [.string p.1, .int .u64 p.2]
theorem encP_one (p : Pr) : ∀ v ∈ encP p, v.oneCell' = true := by
  intro v hv
  simp only [encP, List.mem_cons, List.not_mem_nil, or_false] at hv
  rcases hv with rfl | rfl <;> rfl
def PRow (w : World) (b : Nat) (xs : List Pr) : Prop := ∀ i, i < xs.length → w.rangeAt b (i * 2) (encP (pAt xs i))
theorem PRow.later {w w' : World} {b : Nat} {xs : List Pr} (h : PRow w b xs) (hb : Below w.heap.size w w') : PRow w' b xs :=
  fun i hi j v hv => Keep.below (X := Nowhere) hb _ _ (fun h => h) (h i hi j v hv)

/-- the sort at work: xs lies in A, the first m of ys in B -/
structure SP (w : World) (N n A B m : Nat) (xs ys : List Pr) (W : World) : Prop where
  rx : PRow W A xs
  ry : ∀ i, i < m → W.rangeAt B (i * 2) (encP (pAt ys i))
  tA : W.there A 0 (n * 2)
  tB : W.there B 0 (n * 2)
  ne : A ≠ B
  ge : N ≤ A ∧ N ≤ B
  lt : A < W.heap.size ∧ B < W.heap.size
  len : xs.length = n ∧ ys.length = n
  below : Below N w W
theorem pAt_set_same {ys : List Pr} {k : Nat} (p : Pr) (h : k < ys.length) : pAt (ys.set k p) k = p := by
  unfold pAt
  rw [List.getD_eq_getElem?_getD, List.getElem?_set_self h]
  rfl
theorem pAt_set_other {ys : List Pr} {k i : Nat} (p : Pr) (h : k ≠ i) : pAt (ys.set k p) i = pAt ys i := by
  unfold pAt
  rw [List.getD_eq_getElem?_getD, List.getElem?_set_ne h, List.getD_eq_getElem?_getD]
theorem SP.put {w : World} {N n A B m : Nat} {xs ys : List Pr} {W : World} (h : SP w N n A B m xs ys W) (hm : m < n) (p : Pr) : SP w N n A B (m + 1) xs (ys.set m p) (W.setCells B (m * 2) (encP p)) := by
  have hlen : ∀ p, (encP p).length = 2 := fun _ => rfl
  have ht : W.there B (m * 2) 2 := there_sub h.tB (Nat.zero_le _) (by omega)
  refine ⟨fun i hi => ?_, fun i hi => ?_, there_cells _ h.tA, there_cells _ h.tB, h.ne, h.ge, by rw [size_setCells]; exact h.lt, by rw [List.length_set]; exact h.len, Below.setCells' h.below h.ge.2 _ _⟩
  · exact World.rangeAt_setCells_apart (h.rx i hi) B _ _ (.inl h.ne)
  · by_cases e : m = i
    · subst e
      rw [pAt_set_same _ (by rw [h.len.2]; exact hm)]
      exact World.rangeAt_setCells_same W B _ _ (by rw [hlen]; exact ht)
    · rw [pAt_set_other _ e]
      exact World.rangeAt_setCells_apart (h.ry i (by omega)) B _ _ (.inr (.inl (by rw [hlen]; omega)))
theorem SP.swap {w : World} {N n A B m : Nat} {xs ys : List Pr} {W : World} (h : SP w N n A B m xs ys W) (hm : n ≤ m) : SP w N n B A 0 ys xs W :=
  ⟨fun i hi => h.ry i (by have := h.len; omega), fun i hi => absurd hi (by omega), h.tB, h.tA, fun e => h.ne e.symm, ⟨h.ge.2, h.ge.1⟩, ⟨h.lt.2, h.lt.1⟩, ⟨h.len.2, h.len.1⟩, h.below⟩
theorem SP.drew {w : World} {N n A B m : Nat} {xs ys : List Pr} {W : World} (h : SP w N n A B m xs ys W) : SP w N n A B m xs ys W.drew :=
  ⟨h.rx, h.ry, h.tA, h.tB, h.ne, h.ge, h.lt, h.len, ⟨h.below.os, h.below.tape, h.below.output, h.below.size, h.below.block⟩⟩
theorem SP.less {w : World} {N n A B m m' : Nat} {xs ys : List Pr} {W : World} (h : SP w N n A B m xs ys W) (hm : m' ≤ m) : SP w N n A B m' xs ys W :=
  ⟨h.rx, fun i hi => h.ry i (by omega), h.tA, h.tB, h.ne, h.ge, h.lt, h.len, h.below⟩
theorem SP.load {w : World} {N n A B m : Nat} {xs ys : List Pr} {W : World} (h : SP w N n A B m xs ys W) {i : Nat} (hi : i < n) : W.rangeAt A (i * 2) (encP (pAt xs i)) := h.rx i (by rw [h.len.1]; exact hi)
theorem SP.room {w : World} {N n A B m : Nat} {xs ys : List Pr} {W : World} (h : SP w N n A B m xs ys W) {k : Nat} (hk : k < n) (p : Pr) : W.there B (k * 2) (encP p).length := there_sub h.tB (Nat.zero_le _) (by show k * 2 + 2 ≤ _; omega)

set_option maxRecDepth 10000 in
set_option maxHeartbeats 4000000 in
theorem sortPairs_any (w : World) (N A n : Nat) (xs : List Pr) (hN : N ≤ A) (hA : A < w.heap.size) (hn : xs.length = n) (hnb : n ≤ 16384) (hrow : PRow w A xs) (ht : w.there A 0 (n * 2)) :
    Calls Try.prog 37 #[.slice (some ⟨A, 0, none⟩) n n] w fun x w' => ∃ B ys, x = .returned (.slice (some ⟨B, 0, none⟩) n n) ∧ PRow w' B ys ∧ ys.Perm xs ∧ Srt ys ∧ N ≤ B ∧ Below N w w' := by
  obtain ⟨arr, harr, hmk⟩ := mkN Try.underlying74 Try.info76 (by decide) n hnb
  have HN : Hid (xs.length = n) := hn
  have hS0 : Hid (SP w N n A w.heap.size 0 xs xs (w.alloc (.cells arr 76))) := by
    have hb := (Below.refl w.heap.size w).alloc (Nat.le_refl _) (.cells arr 76)
    refine ⟨hrow.later hb, fun i hi => absurd hi (by omega), there_below ht hb hA, ?_, by omega, ⟨hN, by omega⟩, ⟨by simp; omega, by simp⟩, ⟨hn, hn⟩, (Below.refl N w).alloc (by omega) _⟩
    rw [← harr]
    exact there_new w arr 76
  clear hn hrow ht harr
  go_enter Try.func37, Try.ntmps37
  go_wp2
  clear hmk
  go_loopw [0, 4, 5] (fun a b u wr => ∃ (A B v : Nat) (ys zs : List Pr), a = .slice (some ⟨A, 0, none⟩) n n ∧ b = .slice (some ⟨B, 0, none⟩) n n ∧ u = .int .i64 v ∧ 1 ≤ v ∧ v ≤ 2 * n + 1 ∧ Hid (SP w N n A B 0 ys zs wr) ∧ Hid (ys.Perm xs) ∧ Hid (Chunk v ys)) (fun _ _ u _ => 2 * n + 2 - (intOf u).toNat)
  case atStart => exact ⟨A, w.heap.size, 1, xs, xs, rfl, rfl, rfl, by omega, by omega, hS0, List.Perm.refl _, chunk_one _⟩
  case round =>
    clear hS0 hN hA
    obtain ⟨A, B, v, ys, zs, rfl, rfl, rfl, hv1, hv2, hS, hP, hC⟩ := hrel
    by_cases hlt : v < n
    · go_upto_region 7 with fail
      go_loopw [6] (fun l wr => ∃ (lo : Nat) (zs : List Pr), l = .int .i64 lo ∧ lo ≤ n + 2 * v ∧ Hid (SP w N n A B (min lo n) ys zs wr) ∧ Hid (Ps v ys zs lo)) (fun l _ => n + 2 * v + 1 - (intOf l).toNat)
      case atStart => exact ⟨0, zs, rfl, by omega, hS.out.less (by omega), Ps.start (by have := hS.out.len; omega)⟩
      case round =>
        clear hS
        obtain ⟨lo, zs, rfl, hlo, hS, hPs⟩ := hrel
        by_cases hll : lo < n
        · obtain ⟨mid, hm⟩ : ∃ mid, mid = min (lo + v) n := ⟨_, rfl⟩
          obtain ⟨hi, hh⟩ : ∃ hi, hi = min (lo + 2 * v) n := ⟨_, rfl⟩
          have HM : Hid (mid = min (lo + v) n) := hm
          have HH : Hid (hi = min (lo + 2 * v) n) := hh
          have hm0 : lo ≤ mid := by omega
          have hm1 : mid ≤ hi := by omega
          have hm2 : hi ≤ n := by omega
          clear hm hh
          have hPs0 := hPs
          go_upto_if 33 with fail
          go_cut [7] (fun t wx => t = .int .i64 mid ∧ wx = wr)
          case first =>
            have hm := HM.out
            by_cases hc : lo + v ≤ n
            · obtain rfl : mid = lo + v := by omega
              clear hm
              go_wp2
              go_meet
              exact ⟨by go_num, rfl⟩
            · obtain rfl : mid = n := by omega
              clear hm
              go_wp2
              go_meet
              exact ⟨by go_num, rfl⟩
          case rest =>
          obtain ⟨rfl, rfl⟩ := hcut
          go_upto_if 41 with fail
          go_cut [8] (fun t wx => t = .int .i64 hi ∧ wx = wc)
          case first =>
            have hm := HH.out
            by_cases hc : lo + 2 * v ≤ n
            · obtain rfl : hi = lo + 2 * v := by omega
              clear hm
              go_wp2
              go_meet
              exact ⟨by go_num, rfl⟩
            · obtain rfl : hi = n := by omega
              clear hm
              go_wp2
              go_meet
              exact ⟨by go_num, rfl⟩
          case rest =>
          obtain ⟨rfl, rfl⟩ := hcut
          obtain ⟨tgt, htg⟩ : ∃ tgt, tgt = zs.take lo ++ mrg (sgm ys lo mid) (sgm ys mid hi) := ⟨_, rfl⟩
          have HTG : Hid (tgt = zs.take lo ++ mrg (sgm ys lo mid) (sgm ys mid hi)) := htg
          have hMg0 : Hid (Mg ys zs tgt lo mid hi lo mid lo) := by
            have hl := hS.out.len
            rw [htg]
            exact Ps.enter hPs.out (by rw [hl.1]; exact hll) (by rw [hl.1]; exact HM.out) (by rw [hl.1]; exact HH.out)
          have hS2 : Hid (SP w N n A B lo ys zs _) := hS.out.less (Nat.le_min.2 ⟨Nat.le_refl _, by omega⟩)
          clear htg
          go_upto_region 18 with fail
          go_loopw [9, 10, 11] (fun x y z wr => ∃ (i j k : Nat) (zs : List Pr), x = .int .i64 i ∧ y = .int .i64 j ∧ z = .int .i64 k ∧ i ≤ mid ∧ j ≤ hi ∧ k ≤ n ∧ Hid (SP w N n A B k ys zs wr) ∧ Hid (Mg ys zs tgt lo mid hi i j k)) (fun x y _ _ => mid + hi - (intOf x).toNat - (intOf y).toNat)
          case atStart => exact ⟨lo, mid, lo, zs, rfl, rfl, rfl, hm0, hm1, by omega, hS2, hMg0⟩
          case round =>
            clear hS hS2 hMg0
            obtain ⟨i, j, k, zs, rfl, rfl, rfl, hib, hjb, hkb, hS, hMg⟩ := hrel
            by_cases hlti : i < mid
            · by_cases hltj : j < hi
              · have hkn : k < n := by
                  have h1 := hMg.out.lt (.inl hlti)
                  rw [hS.out.len.2] at h1
                  exact h1
                have hin : i < n := by omega
                have hjn : j < n := by omega
                have hinI : (i : Int) < n := by omega
                have hjnI : (j : Int) < n := by omega
                have hknI : (k : Int) < n := by omega
                have hSd : Hid (SP w N n A B k ys zs wr.drew) := hS.out.drew
                have hri := hS.out.load hin
                have hrj := hS.out.load hjn
                obtain ⟨pi, hpi⟩ : ∃ p, pAt ys i = p := ⟨_, rfl⟩
                obtain ⟨pj, hpj⟩ : ∃ p, pAt ys j = p := ⟨_, rfl⟩
                rw [hpi] at hri
                rw [hpj] at hrj
                have ci := hri 0 _ rfl
                have cj := hrj 0 _ rfl
                rw [Nat.add_zero] at ci cj
                have hri' : wr.drew.rangeAt A (i * 2) (encP pi) := by have := hSd.out.load hin; rw [hpi] at this; exact this
                have hrj' : wr.drew.rangeAt A (j * 2) (encP pj) := by have := hSd.out.load hjn; rw [hpj] at this; exact this
                have hthi := hSd.out.room hkn pi
                have hthj := hSd.out.room hkn pj
                clear hri hrj
                cases hl : Op.bytesLess pj.1.toList pi.1.toList
                · have hS5 : Hid (SP w N n A B (k + 1) ys (zs.set k pi) (wr.drew.setCells B (k * 2) (encP pi))) := hSd.out.put hkn pi
                  have hM5 : Hid (Mg ys (zs.set k pi) tgt lo mid hi (i + 1) j (k + 1)) := by
                    have := hMg.out.left hlti hltj (by rw [hpi, hpj]; exact hl)
                    rw [hpi] at this
                    exact this
                  have HPI : Hid (pAt ys i = pi) := hpi
                  have HPJ : Hid (pAt ys j = pj) := hpj
                  clear hpi hpj
                  go_upto_region 19 with fail
                  go_region
                  clear ci cj
                  go_upto_region 22 with fail
                  go_upto_region 23 with (first
                    | (refine wpList_load_mid rfl 76 _ rfl A (i * 2) rfl (encP pi) _ hri' Try.underlying76 rfl Try.size76 ?_)
                    | (refine wpList_store_named rfl rfl 76 _ _ rfl B (k * 2) (encP pi) rfl rfl hthi Try.size76 (encP_one _) ?_; intro W2 hW2; rw [← hW2.out] at hS5))
                  go_wp2
                  go_roundw
                  case rel => exact ⟨i + 1, j, k + 1, zs.set k pi, by go_num, rfl, by go_num, hlti, hjb, hkn, hS5, hM5⟩
                  case measure => simp [intOf]; omega
                · have hS5 : Hid (SP w N n A B (k + 1) ys (zs.set k pj) (wr.drew.setCells B (k * 2) (encP pj))) := hSd.out.put hkn pj
                  have hM5 : Hid (Mg ys (zs.set k pj) tgt lo mid hi i (j + 1) (k + 1)) := by
                    have := hMg.out.right hlti hltj (by rw [hpi, hpj]; exact hl)
                    rw [hpj] at this
                    exact this
                  have HPI : Hid (pAt ys i = pi) := hpi
                  have HPJ : Hid (pAt ys j = pj) := hpj
                  clear hpi hpj
                  go_upto_region 19 with fail
                  go_region
                  clear ci cj
                  go_upto_region 20 with fail
                  go_upto_region 21 with (first
                    | (refine wpList_load_mid rfl 76 _ rfl A (j * 2) rfl (encP pj) _ hrj' Try.underlying76 rfl Try.size76 ?_)
                    | (refine wpList_store_named rfl rfl 76 _ _ rfl B (k * 2) (encP pj) rfl rfl hthj Try.size76 (encP_one _) ?_; intro W2 hW2; rw [← hW2.out] at hS5))
                  go_wp2
                  go_roundw
                  case rel => exact ⟨i, j + 1, k + 1, zs.set k pj, rfl, by go_num, by go_num, hib, hltj, hkn, hS5, hM5⟩
                  case measure => simp [intOf]; omega
              · have HOR : Hid (i < mid → j = hi) := fun _ => by omega
                have hdj : decide ((j : Int) < (hi : Int)) = false := by simp; omega
                go_upto_region 25 with fail
                go_loopw [9, 11] (fun x z wr => ∃ (i k : Nat) (zs : List Pr), x = .int .i64 i ∧ z = .int .i64 k ∧ i ≤ mid ∧ k ≤ n ∧ Hid (i < mid → j = hi) ∧ Hid (SP w N n A B k ys zs wr) ∧ Hid (Mg ys zs tgt lo mid hi i j k)) (fun x _ _ => mid - (intOf x).toNat)
                case atStart => exact ⟨i, k, zs, rfl, rfl, hib, hkb, HOR, hS, hMg⟩
                case round =>
                  clear hS hMg HOR hib hkb
                  obtain ⟨i, k, zs, rfl, rfl, hib, hkb, HOR, hS, hMg⟩ := hrel
                  by_cases hlt4 : i < mid
                  · have hjh : j = hi := HOR.out hlt4
                    have hkn : k < n := by
                      have h1 := hMg.out.lt (.inl hlt4)
                      rw [hS.out.len.2] at h1
                      exact h1
                    have hin : i < n := by omega
                    have hinI : (i : Int) < n := by omega
                    have hknI : (k : Int) < n := by omega
                    have hr1 := hS.out.load hin
                    obtain ⟨p1, hp1⟩ : ∃ p, pAt ys i = p := ⟨_, rfl⟩
                    rw [hp1] at hr1
                    have hth := hS.out.room hkn p1
                    have hS5 : Hid (SP w N n A B (k + 1) ys (zs.set k p1) (wr.setCells B (k * 2) (encP p1))) := hS.out.put hkn p1
                    have hM5 : Hid (Mg ys (zs.set k p1) tgt lo mid hi (i + 1) j (k + 1)) := by
                      have := hMg.out
                      rw [hjh] at this ⊢
                      have := this.left' hlt4
                      rw [hp1] at this
                      exact this
                    have HP1 : Hid (pAt ys i = p1) := hp1
                    have HJH : Hid (j = hi) := hjh
                    clear hp1 hjh
                    go_upto_region 26 with fail
                    go_upto_region 27 with (first
                      | (refine wpList_load_mid rfl 76 _ rfl A (i * 2) rfl (encP p1) _ hr1 Try.underlying76 rfl Try.size76 ?_)
                      | (refine wpList_store_named rfl rfl 76 _ _ rfl B (k * 2) (encP p1) rfl rfl hth Try.size76 (encP_one _) ?_; intro W2 hW2; rw [← hW2.out] at hS5))
                    go_wp2
                    go_roundw
                    case rel => exact ⟨i + 1, k + 1, zs.set k p1, by go_num, by go_num, hlt4, hkn, fun _ => HJH.out, hS5, hM5⟩
                    case measure => simp [intOf]; omega
                  · obtain rfl : i = mid := by omega
                    clear HOR hlt4
                    go_upto_region 29 with fail
                    go_loopw [10, 11] (fun y z wr => ∃ (j k : Nat) (zs : List Pr), y = .int .i64 j ∧ z = .int .i64 k ∧ j ≤ hi ∧ k ≤ n ∧ Hid (SP w N n A B k ys zs wr) ∧ Hid (Mg ys zs tgt lo i hi i j k)) (fun y _ _ => hi - (intOf y).toNat)
                    case atStart => exact ⟨j, k, zs, rfl, rfl, hjb, hkb, hS, hMg⟩
                    case round =>
                      clear hS hMg hjb hkb
                      obtain ⟨j, k, zs, rfl, rfl, hjb, hkb, hS, hMg⟩ := hrel
                      by_cases hlt5 : j < hi
                      · have hkn : k < n := by
                          have h1 := hMg.out.lt (.inr hlt5)
                          rw [hS.out.len.2] at h1
                          exact h1
                        have hjn : j < n := by omega
                        have hjnI : (j : Int) < n := by omega
                        have hknI : (k : Int) < n := by omega
                        have hr1 := hS.out.load hjn
                        obtain ⟨p1, hp1⟩ : ∃ p, pAt ys j = p := ⟨_, rfl⟩
                        rw [hp1] at hr1
                        have hth := hS.out.room hkn p1
                        have hS5 : Hid (SP w N n A B (k + 1) ys (zs.set k p1) (wr.setCells B (k * 2) (encP p1))) := hS.out.put hkn p1
                        have hM5 : Hid (Mg ys (zs.set k p1) tgt lo i hi i (j + 1) (k + 1)) := by
                          have := hMg.out.right' hlt5
                          rw [hp1] at this
                          exact this
                        have HP1 : Hid (pAt ys j = p1) := hp1
                        clear hp1
                        go_upto_region 30 with fail
                        go_upto_region 31 with (first
                          | (refine wpList_load_mid rfl 76 _ rfl A (j * 2) rfl (encP p1) _ hr1 Try.underlying76 rfl Try.size76 ?_)
                          | (refine wpList_store_named rfl rfl 76 _ _ rfl B (k * 2) (encP p1) rfl rfl hth Try.size76 (encP_one _) ?_; intro W2 hW2; rw [← hW2.out] at hS5))
                        go_wp2
                        go_roundw
                        case rel => exact ⟨j + 1, k + 1, zs.set k p1, by go_num, by go_num, hlt5, hkn, hS5, hM5⟩
                        case measure => simp [intOf]; omega
                      · obtain rfl : j = hi := by omega
                        have hnext : Hid (Ps v ys zs (lo + 2 * v)) := by
                          have hl := hS.out.len
                          have hg := hMg.out
                          rw [HTG.out] at hg
                          exact Ps.next (mid := i) (hi := j) (by omega) hPs.out (by rw [hl.1]; exact hll) (by rw [hl.1]; exact HM.out) (by rw [hl.1]; exact HH.out) hg
                        have hkk : Hid (k = min (lo + 2 * v) n) := by
                          have := hMg.out.kk
                          have := HH.out
                          show _ = _
                          omega
                        have hS9 : Hid (SP w N n A B (min (lo + 2 * v) n) ys zs wr) := by
                          have := hS.out
                          rw [hkk.out] at this
                          exact this
                        go_wp2
                        go_roundw
                        case rel => exact ⟨lo + 2 * v, zs, by go_num, by omega, hS9, hnext⟩
                        case measure => simp [intOf]; omega
            · have HOR : Hid (i < mid → j = hi) := fun h => absurd h hlti
              have hdi : decide ((i : Int) < (mid : Int)) = false := by simp; omega
              go_upto_region 25 with fail
              go_loopw [9, 11] (fun x z wr => ∃ (i k : Nat) (zs : List Pr), x = .int .i64 i ∧ z = .int .i64 k ∧ i ≤ mid ∧ k ≤ n ∧ Hid (i < mid → j = hi) ∧ Hid (SP w N n A B k ys zs wr) ∧ Hid (Mg ys zs tgt lo mid hi i j k)) (fun x _ _ => mid - (intOf x).toNat)
              case atStart => exact ⟨i, k, zs, rfl, rfl, hib, hkb, HOR, hS, hMg⟩
              case round =>
                clear hS hMg HOR hib hkb
                obtain ⟨i, k, zs, rfl, rfl, hib, hkb, HOR, hS, hMg⟩ := hrel
                by_cases hlt4 : i < mid
                · have hjh : j = hi := HOR.out hlt4
                  have hkn : k < n := by
                    have h1 := hMg.out.lt (.inl hlt4)
                    rw [hS.out.len.2] at h1
                    exact h1
                  have hin : i < n := by omega
                  have hinI : (i : Int) < n := by omega
                  have hknI : (k : Int) < n := by omega
                  have hr1 := hS.out.load hin
                  obtain ⟨p1, hp1⟩ : ∃ p, pAt ys i = p := ⟨_, rfl⟩
                  rw [hp1] at hr1
                  have hth := hS.out.room hkn p1
                  have hS5 : Hid (SP w N n A B (k + 1) ys (zs.set k p1) (wr.setCells B (k * 2) (encP p1))) := hS.out.put hkn p1
                  have hM5 : Hid (Mg ys (zs.set k p1) tgt lo mid hi (i + 1) j (k + 1)) := by
                    have := hMg.out
                    rw [hjh] at this ⊢
                    have := this.left' hlt4
                    rw [hp1] at this
                    exact this
                  have HP1 : Hid (pAt ys i = p1) := hp1
                  have HJH : Hid (j = hi) := hjh
                  clear hp1 hjh
                  go_upto_region 26 with fail
                  go_upto_region 27 with (first
                    | (refine wpList_load_mid rfl 76 _ rfl A (i * 2) rfl (encP p1) _ hr1 Try.underlying76 rfl Try.size76 ?_)
                    | (refine wpList_store_named rfl rfl 76 _ _ rfl B (k * 2) (encP p1) rfl rfl hth Try.size76 (encP_one _) ?_; intro W2 hW2; rw [← hW2.out] at hS5))
                  go_wp2
                  go_roundw
                  case rel => exact ⟨i + 1, k + 1, zs.set k p1, by go_num, by go_num, hlt4, hkn, fun _ => HJH.out, hS5, hM5⟩
                  case measure => simp [intOf]; omega
                · obtain rfl : i = mid := by omega
                  clear HOR hlt4
                  go_upto_region 29 with fail
                  go_loopw [10, 11] (fun y z wr => ∃ (j k : Nat) (zs : List Pr), y = .int .i64 j ∧ z = .int .i64 k ∧ j ≤ hi ∧ k ≤ n ∧ Hid (SP w N n A B k ys zs wr) ∧ Hid (Mg ys zs tgt lo i hi i j k)) (fun y _ _ => hi - (intOf y).toNat)
                  case atStart => exact ⟨j, k, zs, rfl, rfl, hjb, hkb, hS, hMg⟩
                  case round =>
                    clear hS hMg hjb hkb
                    obtain ⟨j, k, zs, rfl, rfl, hjb, hkb, hS, hMg⟩ := hrel
                    by_cases hlt5 : j < hi
                    · have hkn : k < n := by
                        have h1 := hMg.out.lt (.inr hlt5)
                        rw [hS.out.len.2] at h1
                        exact h1
                      have hjn : j < n := by omega
                      have hjnI : (j : Int) < n := by omega
                      have hknI : (k : Int) < n := by omega
                      have hr1 := hS.out.load hjn
                      obtain ⟨p1, hp1⟩ : ∃ p, pAt ys j = p := ⟨_, rfl⟩
                      rw [hp1] at hr1
                      have hth := hS.out.room hkn p1
                      have hS5 : Hid (SP w N n A B (k + 1) ys (zs.set k p1) (wr.setCells B (k * 2) (encP p1))) := hS.out.put hkn p1
                      have hM5 : Hid (Mg ys (zs.set k p1) tgt lo i hi i (j + 1) (k + 1)) := by
                        have := hMg.out.right' hlt5
                        rw [hp1] at this
                        exact this
                      have HP1 : Hid (pAt ys j = p1) := hp1
                      clear hp1
                      go_upto_region 30 with fail
                      go_upto_region 31 with (first
                        | (refine wpList_load_mid rfl 76 _ rfl A (j * 2) rfl (encP p1) _ hr1 Try.underlying76 rfl Try.size76 ?_)
                        | (refine wpList_store_named rfl rfl 76 _ _ rfl B (k * 2) (encP p1) rfl rfl hth Try.size76 (encP_one _) ?_; intro W2 hW2; rw [← hW2.out] at hS5))
                      go_wp2
                      go_roundw
                      case rel => exact ⟨j + 1, k + 1, zs.set k p1, by go_num, by go_num, hlt5, hkn, hS5, hM5⟩
                      case measure => simp [intOf]; omega
                    · obtain rfl : j = hi := by omega
                      have hnext : Hid (Ps v ys zs (lo + 2 * v)) := by
                        have hl := hS.out.len
                        have hg := hMg.out
                        rw [HTG.out] at hg
                        exact Ps.next (mid := i) (hi := j) (by omega) hPs.out (by rw [hl.1]; exact hll) (by rw [hl.1]; exact HM.out) (by rw [hl.1]; exact HH.out) hg
                      have hkk : Hid (k = min (lo + 2 * v) n) := by
                        have := hMg.out.kk
                        have := HH.out
                        show _ = _
                        omega
                      have hS9 : Hid (SP w N n A B (min (lo + 2 * v) n) ys zs wr) := by
                        have := hS.out
                        rw [hkk.out] at this
                        exact this
                      go_wp2
                      go_roundw
                      case rel => exact ⟨lo + 2 * v, zs, by go_num, by omega, hS9, hnext⟩
                      case measure => simp [intOf]; omega
        · have hfin : zs = pass v ys := hPs.out.fin (by have := hS.out.len; omega)
          have hS9 : Hid (SP w N n B A 0 zs ys wr) := hS.out.swap (by omega)
          have hP9 : Hid (zs.Perm xs) := by
            rw [hfin]
            exact (pass_perm v (by omega) ys.length ys (Nat.le_refl _)).trans hP.out
          have hC9 : Hid (Chunk (v * 2) zs) := by
            rw [hfin]
            exact pass_chunk v (by omega) ys.length ys (Nat.le_refl _) hC.out
          clear hfin hPs
          have hdl : decide ((lo : Int) < (n : Int)) = false := by simp; omega
          go_wp2
          go_roundw
          case rel => exact ⟨B, A, v * 2, zs, ys, rfl, rfl, by go_num, by omega, by omega, hS9, hP9, hC9⟩
          case measure => simp [intOf]; omega
    · have hdl : decide ((v : Int) < (n : Int)) = false := by simp; omega
      go_wp2
      go_ret
      refine ⟨A, ys, rfl, hS.out.rx, hP.out, chunk_srt hC.out (by have := hS.out.len; omega), hS.out.ge.1, hS.out.below⟩
end Go.Proofs.Qxb6603644a
