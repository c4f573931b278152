/-
  THE WALK of newLeaf (44).
-/
import Derived.Test.Qxb6603644aEnts
namespace Go.Proofs.Qxb6603644a
open Go.RowKit Go.Shelf

set_option maxRecDepth 10000 in
set_option maxHeartbeats 1000000 in
theorem newLeaf_any (b off n cap : Nat) (cs : List C) (rs : List R) (w : World) (hn : cs.length = n) (h0 : 0 < n) (hnb : n ≤ 16384) (hrs : cs.map (fun c => c.k.r) = rs) (hrow : ChRow w b off cs) (hrt : Rts w b cs) (hput : ∀ c ∈ cs, c.k.put = true) :
    Calls Try.prog 44 #[.slice (some ⟨b, off, none⟩) n cap] w fun x w' => ∃ g, x = .returned (.pointer (some ⟨g, 0, none⟩)) ∧ Below w.heap.size w w' ∧ LeafAt w' (· < w.heap.size) g rs := by
  have HROW : Hid (ChRow w b off cs) := hrow
  have HRT : Hid (Rts w b cs) := hrt
  have HPUT : Hid (∀ c ∈ cs, c.k.put = true) := hput
  have HN : Hid (cs.length = n) := hn
  have HRS : Hid (cs.map (fun c => c.k.r) = rs) := hrs
  have HSM : Hid (∀ q, (flat rs q).length ≤ q * 1048576) := fun q => flat_small (fun r hr => by
    rw [← hrs] at hr
    obtain ⟨c, hc, rfl⟩ := List.mem_map.1 hr
    exact (hrt c hc).1) q
  clear hrow hrt hput hn hrs
  go_enter Try.func44, Try.ntmps44
  go_wp2
  go_loopw [3, 22] (fun sz i wr => ∃ k z : Nat, k ≤ n ∧ i = .int .i64 k ∧ sz = .int .i64 z ∧ Hid (z = (flat rs (14 * k)).length) ∧ Below w.heap.size w wr) (fun _ i _ => n - (intOf i).toNat)
  case atStart => exact ⟨0, 0, Nat.zero_le _, rfl, rfl, rfl, Below.refl _ _⟩
  case round =>
    obtain ⟨k, z, hk, rfl, rfl, hz, hB⟩ := hrel
    by_cases hlt : k < n
    · obtain ⟨sq, id, rb, ro, hc0, hc1, hc2, hc3, hR⟩ := row_elem HROW.out HRT.out HPUT.out (by rw [HN.out]; exact hlt) hB
      rw [HRS.out] at hc0 hR
      obtain ⟨r, hr⟩ : ∃ r, rAt rs k = r := ⟨_, rfl⟩
      rw [hr] at hc0 hR
      obtain ⟨h, hh⟩ : ∃ h, r.hash = h := ⟨_, rfl⟩
      rw [hh] at hc0
      have HR : Hid (RouteAt wr rb ro r) := hR.later hB
      have HRR : Hid (rAt rs k = r) := hr
      have HH : Hid (r.hash = h) := hh
      clear hR hr hh
      go_wp2_with (go_at_call 54; refine (fields_lit rb ro _).mono ?_; rintro x1 w1 ⟨rfl, hb0⟩)
      have hb1 : Below wr.heap.size wr w1 := ((Below.refl wr.heap.size wr).alloc (Nat.le_refl _) _).trans (hb0.mono (by simp))
      clear hb0
      have hsz1 := hb1.size
      have HR1 : Hid (RouteAt w1 rb ro r) := HR.out.keep (Keep.below (X := Nowhere) hb1) (fun _ h => h.elim)
      go_loop [3, 33] (fun sz j => ∃ q y : Nat, q ≤ 14 ∧ j = .int .i64 q ∧ sz = .int .i64 y ∧ Hid (y = (flat rs (14 * k + q)).length)) (fun _ j => 14 - (intOf j).toNat)
      case atStart => exact ⟨0, z, by omega, rfl, rfl, hz⟩
      case round =>
        obtain ⟨q, y, hq, rfl, rfl, hy⟩ := hrel
        by_cases hq2 : q < 14
        · have hX := index_tx rb ro q hq2
          have hct : w1.cell? ⟨rb, ro + tc q, none⟩ = some (.string (r.tx q)) := HR1.out.tx q hq2
          have hrbl : rb < w1.heap.size := cell_lt hct
          obtain ⟨tx, htx⟩ : ∃ tx, r.tx q = tx := ⟨_, rfl⟩
          rw [htx] at hct
          have hT : Hid (T rs (14 * k + q) = tx) := by
            show _ = _
            unfold T
            rw [show (14 * k + q) / 14 = k by omega, show (14 * k + q) % 14 = q by omega, HRR.out, htx]
          have hb := HSM.out (14 * k + q + 1)
          have hfs := flat_succ rs (14 * k + q)
          rw [hT.out, ← hy.out] at hfs
          rw [hfs] at hb
          have HFS : Hid _ := hfs
          clear hfs htx
          have hyb : y + tx.size ≤ 1000000000000 := by omega
          go_wp2
          go_round
          case rel => exact ⟨q + 1, y + tx.size, by omega, by go_num, by go_num, HFS.out.symm⟩
          case measure => simp [intOf]; omega
        · obtain rfl : q = 14 := by omega
          go_wp2
          go_roundw
          case rel => exact ⟨k + 1, y, hlt, by go_num, rfl, hy, ((hB.trans (hb1.mono hB.size)).alloc (Nat.le_trans hB.size hsz1) _).alloc (by have := hB.size; simp; omega) _⟩
          case measure => simp [intOf]; omega
    · obtain rfl : k = n := by omega
      have hsz := hB.size
      have hzb : z ≤ 1000000000000 := by have := HSM.out (14 * k); rw [← hz.out] at this; omega
      obtain ⟨arr, harr, hmk⟩ := mk80 k hnb
      have HARR : Hid (arr.size = k * 19) := harr
      clear harr
      go_wp2_with (go_at_call 55; refine (Try.Builder_Grow_fresh w.heap.size wr.heap.size z _ hsz (heap_alloc_new _ _) (by simp; omega) (by (go_light; omega))).mono ?_; rintro x1 w1 ⟨rfl, hU1, hb1⟩)
      have hsz1 : wr.heap.size + 1 ≤ w1.heap.size := by have := hb1.size; simpa using this
      have hU0 : Used w.heap.size wr.heap.size (Lib.byteCells (flat rs (14 * 0))) (w1.alloc (.cells arr 93)) := Used.alloc (show Used w.heap.size wr.heap.size [] w1 from hU1) _
      have hE0 : Ents rs w1.heap.size k (0 * 19) (w1.alloc (.cells arr 93)) := ⟨arr, heap_alloc_new _ _, HARR.out, fun o ho => by omega⟩
      have hB0 : Below w.heap.size w (w1.alloc (.cells arr 93)) := (((hB.alloc hsz _).trans hb1)).alloc (by omega) _
      obtain ⟨e, he⟩ : ∃ e, w1.heap.size = e := ⟨_, rfl⟩
      rw [he] at hE0
      obtain ⟨b0, hb0⟩ : ∃ b0, wr.heap.size = b0 := ⟨_, rfl⟩
      rw [hb0] at hU0
      simp only [he, hb0]
      have hee : w.heap.size ≤ e := by omega
      clear hU1 hb1
      go_loopw [51] (fun i w3 => ∃ q : Nat, q ≤ k ∧ i = .int .i64 q ∧ Used w.heap.size b0 (Lib.byteCells (flat rs (14 * q))) w3 ∧ Ents rs e k (q * 19) w3 ∧ Below w.heap.size w w3) (fun i _ => k - (intOf i).toNat)
      case atStart => exact ⟨0, Nat.zero_le _, rfl, hU0, hE0, hB0⟩
      case round =>
        clear hU0 hE0 hB0 hmk HARR he hb0 hB hz hzb
        obtain ⟨q, hq, rfl, hU, hE, hB⟩ := hrel
        clear hsz1 hsz
        by_cases hq2 : q < k
        · obtain ⟨sq, id, rb, ro, hc0, hc1, hc2, hc3, hR⟩ := row_elem HROW.out HRT.out HPUT.out (by rw [HN.out]; exact hq2) hB
          rw [HRS.out] at hc0 hR
          obtain ⟨r, hr⟩ : ∃ r, rAt rs q = r := ⟨_, rfl⟩
          rw [hr] at hc0 hR
          obtain ⟨h, hh⟩ : ∃ h, r.hash = h := ⟨_, rfl⟩
          rw [hh] at hc0
          have HR : Hid (RouteAt w rb ro r) := hR
          have HRR : Hid (rAt rs q = r) := hr
          have HH : Hid (r.hash = h) := hh
          clear hR hr hh
          go_upto_region 19 with (go_at_call 54; refine (fields_lit rb ro _).mono ?_; rintro x1 w4 ⟨rfl, hb0⟩)
          have hb4 : Below wr.heap.size wr w4 := ((Below.refl wr.heap.size wr).alloc (Nat.le_refl _) _).trans (hb0.mono (by simp))
          have hcc : w4.cell? ⟨wr.heap.size, 0, none⟩ = some (.int .u64 h) := by
            rw [World.cell?_of_block (hb0.block wr.heap.size (by simp)), Lib.cell_of_heap (heap_alloc_new _ _)]
            rfl
          clear hb0
          have hU4 := hU.below hb4
          have hE4 := hE.below hb4
          have hB4 : Below w.heap.size w w4 := hB.trans (hb4.mono hB.size)
          have hsz4 := hb4.size
          have hB4s := hB4.size
          clear hU hE hB hb4
          have hqk : q * 19 + 19 ≤ k * 19 := by omega
          obtain ⟨v0, hv0⟩ := hE4.cell (o := q * 19) (by omega)
          have hf0 := hE4.frozen (q * 19)
          have hel : e < w4.heap.size := cell_lt hv0
          have hwl : wr.heap.size < w4.heap.size := cell_lt hcc
          go_wp2
          have hent0 : Value.int .u64 h = entCell rs (q * 19) := by rw [ent0, HRR.out, HH.out]
          have HENT0 : Hid (Value.int .u64 h = entCell rs (q * 19)) := hent0
          clear hent0
          go_loopw [69] (fun i w5 => ∃ j : Nat, j ≤ 14 ∧ i = .int .i64 j ∧ Used w.heap.size b0 (Lib.byteCells (flat rs (14 * q + j))) w5 ∧ Ents rs e k (q * 19 + 1 + j) w5 ∧ Below w.heap.size w w5 ∧ Hid (w5.heap[w4.heap.size + 1]? = some (.cells #[.pointer (some ⟨rb, ro + 7, none⟩), .pointer (some ⟨rb, ro + 8, none⟩), .pointer (some ⟨rb, ro + 10, none⟩), .pointer (some ⟨rb, ro + 11, none⟩)] 106 (0, 0)))) (fun i _ => 14 - (intOf i).toNat)
          case atStart =>
            refine ⟨0, by omega, rfl, ?_, ?_, ?_, ?_⟩
            · exact ((hE4.usedSet hU4 _ _).alloc _).alloc _
            · exact ((hE4.put (by omega) HENT0.out).alloc _).alloc _
            · exact ((hB4.setCell (p := ⟨e, q * 19, none⟩) hee _).alloc (by simp; omega) _).alloc (by simp; omega) _
            · show _ = _
              have := heap_alloc_new ((w4.setCell ⟨e, q * 19, none⟩ (.int .u64 h)).alloc (.cells #[.pointer (some ⟨rb, ro, none⟩), .pointer (some ⟨rb, ro + 1, none⟩), .pointer (some ⟨rb, ro + 2, none⟩), .pointer (some ⟨rb, ro + 3, none⟩), .pointer (some ⟨rb, ro + 4, none⟩), .pointer (some ⟨rb, ro + 5, none⟩), .pointer (some ⟨rb, ro + 6, none⟩), .pointer (some ⟨rb, ro + 9, none⟩), .pointer (some ⟨rb, ro + 12, none⟩), .pointer (some ⟨rb, ro + 13, none⟩), .pointer (some ⟨rb, ro + 14, none⟩), .pointer (some ⟨rb, ro + 15, none⟩), .pointer (some ⟨rb, ro + 16, none⟩), .pointer (some ⟨rb, ro + 17, none⟩)] 104)) (.cells #[.pointer (some ⟨rb, ro + 7, none⟩), .pointer (some ⟨rb, ro + 8, none⟩), .pointer (some ⟨rb, ro + 10, none⟩), .pointer (some ⟨rb, ro + 11, none⟩)] 106)
              simp only [World.size_alloc, World.size_setCell] at this
              exact this
          case round =>
            clear hU4 hE4 hB4 hcc hv0 hf0 hc0 hc1 hc2 hc3
            obtain ⟨j, hj, rfl, hU, hE, hB, hD⟩ := hrel
            have hne := hE.ne hU
            by_cases hj2 : j < 14
            · have hX := index_tx rb ro j hj2
              have hct : wr.cell? ⟨rb, ro + tc j, none⟩ = some (.string (r.tx j)) := (HR.out.later hB).tx j hj2
              obtain ⟨tx, htx⟩ : ∃ tx, r.tx j = tx := ⟨_, rfl⟩
              rw [htx] at hct
              have hT : Hid (T rs (14 * q + j) = tx) := by
                show _ = _
                unfold T
                rw [show (14 * q + j) / 14 = q by omega, show (14 * q + j) % 14 = j by omega, HRR.out, htx]
              clear htx
              have hfl : Hid (Lib.byteCells (flat rs (14 * q + j)) ++ Lib.strCells tx = Lib.byteCells (flat rs (14 * q + (j + 1)))) := by
                show _ = _
                rw [← Nat.add_assoc]
                simp only [flat, hT.out, Lib.byteCells, Lib.strCells, List.map_append]
              have hbl : Hid ((Lib.byteCells (flat rs (14 * q + j))).length + tx.size ≤ 140737488355328) := by
                show _ ≤ _
                have h1 := HSM.out (14 * q + j + 1)
                rw [flat_succ, hT.out] at h1
                simp only [Lib.byteCells, List.length_map]
                (go_light; omega)
              have hBs := hB.size
              go_upto_region 24 with (go_at_call 56; refine (writeString w.heap.size b0 _ tx _ hU hbl.out hBs).mono ?_; rintro x6 w6 ⟨rfl, hU6, hb6, ho6⟩)
              have hE6 := hE.others ho6 hne
              have hB6 := hB.trans hb6
              have hD6 : Hid (w6.heap[w4.heap.size + 1]? = some (.cells #[.pointer (some ⟨rb, ro + 7, none⟩), .pointer (some ⟨rb, ro + 8, none⟩), .pointer (some ⟨rb, ro + 10, none⟩), .pointer (some ⟨rb, ro + 11, none⟩)] 106 (0, 0))) := ho6 _ _ hD.out (fun e => hU.ne hD.out (by decide) (Option.some.inj e)) (fun c f => by simp)
              rw [hfl.out] at hU6
              clear hU hE hB hD hb6 ho6 hBs
              obtain ⟨v1, hv1⟩ := hE6.cell (o := q * 19 + 1 + j) (by omega)
              have hf1 := hE6.frozen (q * 19 + 1 + j)
              go_region_held3 (fun _ => True) (trivial) ((go_at_call 57; refine (Try.Builder_Len w.heap.size b0 (Lib.byteCells (flat rs (14 * q + (j + 1)))) _ ?_).mono ?_; exact .inr hU6; rintro x7 w7 ⟨rfl, rfl⟩))
              have hlen : Hid (Value.int .i64 ((Lib.byteCells (flat rs (14 * q + (j + 1)))).length : Nat) = entCell rs (q * 19 + 1 + j)) := by
                show _ = _
                rw [ent1 rs q j hj2]
                simp only [Lib.byteCells, List.length_map]
                rfl
              go_wp2
              go_roundw
              case rel =>
                refine ⟨j + 1, hj2, by go_num, hE6.usedSet hU6 _ _, (hE6.put (by omega) hlen.out).drew, (hB6.setCell (p := ⟨e, q * 19 + 1 + j, none⟩) hee _).drew, ?_⟩
                exact (Below.heap_setCell _ _ _ _ (by simp; omega)).trans hD6.out
              case measure => simp [intOf]; omega
            · obtain rfl : j = 14 := by omega
              have d0 : wr.cell? ⟨w4.heap.size + 1, 0, none⟩ = some (.pointer (some ⟨rb, ro + 7, none⟩)) := by rw [Lib.cell_of_heap hD.out]; rfl
              have d1 : wr.cell? ⟨w4.heap.size + 1, 1, none⟩ = some (.pointer (some ⟨rb, ro + 8, none⟩)) := by rw [Lib.cell_of_heap hD.out]; rfl
              have d2 : wr.cell? ⟨w4.heap.size + 1, 2, none⟩ = some (.pointer (some ⟨rb, ro + 10, none⟩)) := by rw [Lib.cell_of_heap hD.out]; rfl
              have d3 : wr.cell? ⟨w4.heap.size + 1, 3, none⟩ = some (.pointer (some ⟨rb, ro + 11, none⟩)) := by rw [Lib.cell_of_heap hD.out]; rfl
              go_wp2
              go_loopw [86] (fun i w5 => ∃ p : Nat, p ≤ 4 ∧ i = .int .i64 p ∧ Used w.heap.size b0 (Lib.byteCells (flat rs (14 * q + 14))) w5 ∧ Ents rs e k (q * 19 + 15 + p) w5 ∧ Below w.heap.size w w5) (fun i _ => 4 - (intOf i).toNat)
              case atStart => exact ⟨0, by omega, rfl, hU, hE, hB⟩
              case round =>
                clear d0 d1 d2 d3 hU hE hB hD
                obtain ⟨p, hp, rfl, hU, hE, hB⟩ := hrel
                by_cases hp2 : p < 4
                · have hX := index_nm rb ro p hp2
                  have hcn : wr.cell? ⟨rb, ro + nc p, none⟩ = some (.int .i64 (r.nm p)) := (HR.out.later hB).nm p hp2
                  obtain ⟨x, hx⟩ : ∃ x, r.nm p = x := ⟨_, rfl⟩
                  rw [hx] at hcn
                  have hent : Hid (Value.int .i64 x = entCell rs (q * 19 + 15 + p)) := by
                    show _ = _
                    rw [ent2 rs q p hp2, HRR.out, hx]
                  clear hx
                  obtain ⟨v1, hv1⟩ := hE.cell (o := q * 19 + 15 + p) (by omega)
                  have hf1 := hE.frozen (q * 19 + 15 + p)
                  go_wp2
                  go_region
                  all_goals
                    go_wp2
                    go_roundw
                    case rel => exact ⟨p + 1, hp2, by go_num, hE.usedSet hU _ _, (hE.put (by omega) hent.out).drew, (hB.setCell (p := ⟨e, q * 19 + 15 + p, none⟩) hee _).drew⟩
                    case measure => simp [intOf]; omega
                · obtain rfl : p = 4 := by omega
                  go_wp2
                  go_roundw
                  case rel => exact ⟨q + 1, hq2, by go_num, hU, by rw [show (q + 1) * 19 = q * 19 + 15 + 4 by omega]; exact hE, hB⟩
                  case measure => simp [intOf]; omega
        · obtain rfl : q = k := by omega
          have hsz := hB.size
          go_wp2_with (go_at_call 58; refine (builder_string w.heap.size b0 (flat rs (14 * q)) _ hU hsz).mono ?_; rintro x2 w2 ⟨rfl, hb2, ho2⟩)
          have hE2 := hE.others ho2 (hE.ne hU)
          have hB2 := hB.trans hb2
          have hsz2 := hB2.size
          go_ret
          refine ⟨w2.heap.size, rfl, hB2.alloc hsz2 _, ?_⟩
          have hlen : rs.length = q := by rw [← HRS.out, List.length_map, HN.out]
          have hnew := heap_alloc_new w2 (.cells #[.pointer none, .int .i64 (q : Int), .slice (some ⟨e, 0, none⟩) q q, .string ⟨(flat rs (14 * q)).toArray⟩] 82)
          obtain ⟨arr2, h1, h2, h3⟩ := (hE2.alloc (.cells #[.pointer none, .int .i64 (q : Int), .slice (some ⟨e, 0, none⟩) q q, .string ⟨(flat rs (14 * q)).toArray⟩] 82)).row
          refine ⟨fun hg => absurd (show w2.heap.size < w.heap.size from hg) (by omega), by rw [Lib.cell_of_heap hnew]; rfl, by rw [Lib.cell_of_heap hnew, hlen]; rfl, ⟨e, fun hg => absurd (show e < w.heap.size from hg) (by omega), by rw [Lib.cell_of_heap hnew, hlen]; rfl, fun o ho => ?_⟩, by rw [Lib.cell_of_heap hnew, hlen]; rfl, fun r hr => ?_⟩
          · rw [Lib.cell_of_heap h1]
            exact h3 o (by omega)
          · rw [← HRS.out] at hr
            obtain ⟨c, hc, rfl⟩ := List.mem_map.1 hr
            exact (HRT.out c hc).1
end Go.Proofs.Qxb6603644a
