/-
  apply (22) on a leaf.
-/
import Derived.Test.Qxb6603644aApp2
namespace Go.Proofs.Qxb6603644a
open Go.RowKit Go.Shelf

/-- 'append' past the capacity: a new row -/
theorem wpList_append_new {P : Program} (w : World) {ops : Array Oper} {rest : List Oper} {o : Oper} {a : Act} {Q : Exit → Act → World → Prop}
    (hg : o.guard = none) (s x : Operand) (t : TypeId) (hop : o.op = Op.call { callee := Callee.builtin Builtin.append, args := #[s, x], argTypes := #[t, t] })
    (e : TypeId) (i : TypeInfo) (z : Value) (size bytes : Nat) (ht : P.underlying t = some (.slice e)) (hi : P.info? e = some i) (hz : i.zero = some z) (hsize : i.size = size) (hby : i.bytes = bytes) (hzs : z.cells.size = size) (hsz : 0 < size)
    (b : Addr) (n cap : Nat) (hs : a.eval s = .slice (some b) n cap) (olds : List Value) (hlo : olds.length = n * size) (holds : ∀ j u, olds[j]? = some u → w.cell? (b.add j) = some u)
    (ad : Addr) (m c : Nat) (hx : a.eval x = .slice (some ad) m c) (news : List Value) (hl : news.length = m * size) (hnews : ∀ j u, news[j]? = some u → w.cell? (ad.add j) = some u)
    (hgr : cap < n + m) (h63 : n + m ≤ maxLen) (hbytes : (n + m) * bytes ≤ 140737488355328)
    (hK : ∀ v' w', w'.ownsRow w.heap.size e size v' (n + m) (olds ++ news) → w.grownBy w' none → wpList P ops Q rest (a.put o.dst v') w') : wpList P ops Q (o :: rest) a w := by
  refine wpList_plain hg fun K hK' => ?_
  obtain ⟨v', w', hrun, h1, h2⟩ := run_append_arg_grows (P := P) w t o.type e i z size bytes ht hi hz hsize hby hzs hsz b n cap olds hlo holds ad m c news hl hnews hgr h63 hbytes
  unfold Oper.wp
  simp [execOp, hop, resolve, invoke, builtin, hs, hx, hrun, Result.andThen]
  exact hK' _ _ (hK v' w' h1 h2)

theorem flat_len (cs : List C) : (cs.flatMap cellsC).length = cs.length * 4 := by
  induction cs with
  | nil => rfl
  | cons c cs ih => simp only [List.flatMap_cons, List.length_append, ih, List.length_cons]; show 4 + _ = _; omega
theorem flat_at (cs : List C) (i r : Nat) (hi : i < cs.length) (hr : r < 4) : (cs.flatMap cellsC)[i * 4 + r]? = (cellsC (cAt cs i))[r]? := by
  induction cs generalizing i with
  | nil => simp at hi
  | cons c cs ih =>
    rw [List.flatMap_cons]
    cases i with
    | zero =>
      rw [List.getElem?_append_left (by show 0 * 4 + r < 4; omega)]
      rw [Nat.zero_mul, Nat.zero_add]
      rfl
    | succ i =>
      rw [List.getElem?_append_right (by show 4 ≤ (i + 1) * 4 + r; omega)]
      have : (i + 1) * 4 + r - (cellsC c).length = i * 4 + r := by show (i + 1) * 4 + r - 4 = _; omega
      rw [this, ih i (by simpa using hi)]
      rfl
theorem row_flat {w : World} {b off : Nat} {cs : List C} (h : ChRow w b off cs) : ∀ j u, (cs.flatMap cellsC)[j]? = some u → w.cell? ((⟨b, off, none⟩ : Addr).add j) = some u := by
  intro j u hj
  have hlt := (List.getElem?_eq_some_iff.1 hj).1
  rw [flat_len] at hlt
  rw [show j = j / 4 * 4 + j % 4 by omega, flat_at cs (j / 4) (j % 4) (by omega) (by omega)] at hj
  obtain ⟨a0, a1, a2, a3⟩ := h (j / 4) (by omega)
  rw [Addr.add_mid]
  rcases (by omega : j % 4 = 0 ∨ j % 4 = 1 ∨ j % 4 = 2 ∨ j % 4 = 3) with m | m | m | m <;> rw [m] at hj <;> (obtain rfl := Option.some.inj hj)
  · rw [show off + j = off + j / 4 * 4 by omega]; exact a0
  · rw [show off + j = off + j / 4 * 4 + 1 by omega]; exact a1
  · rw [show off + j = off + j / 4 * 4 + 2 by omega]; exact a2
  · rw [show off + j = off + j / 4 * 4 + 3 by omega]; exact a3
theorem flat_row {w : World} {M : Nat} {cs : List C} {cur : Array Value} {t : TypeId} {f : Nat × Nat} (hM : w.heap[M]? = some (.cells cur t f)) (hc : cur.toList.take (cs.length * 4) = cs.flatMap cellsC) : ChRow w M 0 cs := by
  intro i hi
  have hcell : ∀ r, r < 4 → w.cell? ⟨M, 0 + i * 4 + r, none⟩ = (cellsC (cAt cs i))[r]? := by
    intro r hr
    rw [← flat_at cs i r hi hr, ← hc, List.getElem?_take, if_pos (by omega), World.cell?]
    simp [hM]
  exact ⟨hcell 0 (by omega), hcell 1 (by omega), hcell 2 (by omega), hcell 3 (by omega)⟩

theorem merged_strict {rs : List R} {ks ds : List K} (hp : ds.Perm (rs.map heldK ++ ks)) (hd : ds.Pairwise fun a b => ¬ ksl b a) (hrs : rs.Pairwise klt) (hks : ks.Pairwise ksl) (hseq : ∀ k ∈ ks, 0 ≤ k.seq) : ds.Pairwise ksl := by
  have hne : (rs.map heldK ++ ks).Pairwise fun a b => ¬ (same a.r b.r ∧ a.seq = b.seq) := by
    rw [List.pairwise_append]
    refine ⟨?_, ?_, ?_⟩
    · rw [List.pairwise_map]
      refine hrs.imp fun {a b} h => ?_
      exact fun hh => klt_not_same h hh.1
    · exact hks.imp fun {a b} h hh => by
        rcases h with h | ⟨_, h⟩
        · exact klt_not_same h hh.1
        · omega
    · intro a ha b hb hh
      obtain ⟨r, _, rfl⟩ := List.mem_map.1 ha
      have := hseq b hb
      have h2 := hh.2
      simp only [heldK] at h2
      omega
  have hne2 : ds.Pairwise fun a b => ¬ (same a.r b.r ∧ a.seq = b.seq) := (hp.pairwise_iff (fun {a b} h hh => h ⟨same_symm hh.1, hh.2.symm⟩)).2 hne
  refine (hd.and hne2).imp fun {a b} h => ?_
  rcases ksl_tri a b with h1 | h1 | h1
  · exact h1
  · exact absurd h1 h.2
  · exact absurd h1 h.1

set_option maxRecDepth 10000 in
set_option maxHeartbeats 1000000 in
theorem apply_leaf {d : Nat} {P : Int} {g : Nat} {rs : List R} {w : World} {N : Nat → Prop} {b off n cap : Nat} {cs : List C} (hA : AH d P (.leaf g rs) w N b off n cap cs) (h0 : 0 < n) :
    Calls Try.prog 22 #[.pointer (some ⟨g, 0, none⟩), .int .i64 (4 * d : Nat), .slice (some ⟨b, off, none⟩) n cap] w fun x w' => ∃ t', x = .returned (.pointer t'.ptr) ∧ AP d (.leaf g rs) w N b off n cs t' w' := by
  have hbl := hA.lt h0
  have hL : LeafAt w N g rs := hA.isT
  have hcnt : rs.length + n ≤ 16384 := hA.cnt
  obtain ⟨s, hs⟩ : ∃ s, 4 * d = s := ⟨_, rfl⟩
  have hs64 : s ≤ 64 := by have := hA.d16; omega
  have hgl : g < w.heap.size := cell_lt hL.ch
  have hrp : 0 < rs.length := List.length_pos_iff.2 hA.good.1
  have HA1 : Hid (AH d P (.leaf g rs) (w.alloc (.cells #[.int .i64 (s : Int)] 3)) N b off n cap cs) := hA.alloc hbl _
  have HA : Hid (AH d P (.leaf g rs) w N b off n cap cs) := hA
  have k0 := hL.ch
  rw [hs]
  have HS : Hid (4 * d = s) := hs
  clear hA hs hL
  obtain ⟨W1, hW1⟩ : ∃ W1, W1 = w.alloc (.cells #[.int .i64 (s : Int)] 3) := ⟨_, rfl⟩
  rw [← hW1] at HA1
  have q0 : W1.cell? ⟨w.heap.size, 0, none⟩ = some (.int .i64 (s : Int)) := by
    rw [hW1, Lib.cell_of_heap (heap_alloc_new _ _)]
    rfl
  have hb01 : Below w.heap.size w W1 := by rw [hW1]; exact (Below.refl w.heap.size w).alloc (Nat.le_refl _) _
  have HW1 : Hid (W1 = w.alloc (.cells #[.int .i64 (s : Int)] 3)) := hW1
  clear hW1
  have hL1 : LeafAt W1 N g rs := HA1.out.isT
  have hheld := held_any g rs W1 hL1.cnt (by omega) hL1.small (fun A D c1 c2 W hU => by
    have := each_leaf W1 N A D c1 c2 rs.length g [] rs W hL1 hrp hU (by simp) (by omega)
    rw [List.nil_append] at this
    exact this)
  rw [HW1.out] at hheld
  clear hL1
  obtain ⟨m, hm⟩ : ∃ m, rs.length = m := ⟨_, rfl⟩
  have HM : Hid (rs.length = m) := hm
  rw [hm] at hheld hcnt hrp
  clear hm
  obtain ⟨i0, hi0, hz0, hz1, hz2⟩ := info_parts Try.info56
  have HZ0 : Hid (i0.zero = some (.agg #[.int .u64 0, .int .i64 0, .string ⟨#[]⟩, .pointer none])) := hz0
  clear hz0
  go_enter Try.func22, Try.ntmps22
  go_upto_region 7 with (first
    | (go_at_call 40; refine hheld.mono ?_; rintro x2 w2 ⟨D, hcs, rfl, hH⟩; rw [← HW1.out] at hH)
    | (at_builtin; refine wpList_append_new _ rfl _ _ 28 rfl 56 i0 _ 4 40 Try.underlying28 hi0 HZ0.out hz1 hz2 rfl (by decide) ⟨D, 0, none⟩ m m rfl (hcs.flatMap cellsC) ?l1 ?l2 ⟨b, off, none⟩ n cap rfl (cs.flatMap cellsC) ?l3 ?l4 (by omega) ?l5 ?l6 ?_; rotate_right; intro v3 w3 hown3 hgr3))
  case l1 =>
    have := congrArg List.length hH.ks
    rw [List.length_map, List.length_map, HM.out] at this
    rw [flat_len, this]
  case l2 => exact row_flat hH.row
  case l3 => rw [flat_len, HA.out.len]
  case l4 => exact row_flat (HA1.out.row.keep (Keep.below (X := Nowhere) hH.below) (fun _ h => h.elim))
  case l5 => unfold maxLen; omega
  case l6 => omega
  have hlc : hcs.length = m := by
    have := congrArg List.length hH.ks
    rw [List.length_map, List.length_map, HM.out] at this
    exact this
  obtain ⟨M, cap', cur, rfl, hMge, hMc, hcap1, hcap2, hcs3, htk3⟩ : ∃ M cap' cur, v3 = .slice (some ⟨M, 0, none⟩) (m + n) cap' ∧ w2.heap.size ≤ M ∧ w3.heap[M]? = some (.cells cur 56 (0, 0)) ∧ m + n ≤ cap' ∧ cap' ≤ 9223372036854775807 ∧ cur.size = cap' * 4 ∧ cur.toList.take ((m + n) * 4) = hcs.flatMap cellsC ++ cs.flatMap cellsC := by
    rcases hown3.2 with ⟨_, h⟩ | ⟨M, cap', cur, h1, h2, h3, h4, h5, h6, h7⟩
    · omega
    · exact ⟨M, cap', cur, h1, h2, h3, h4, by unfold maxLen at h5; omega, h6, h7⟩
  have hlen3 : (hcs ++ cs).length = m + n := by rw [List.length_append, hlc, HA.out.len]
  have hrow3 : ChRow w3 M 0 (hcs ++ cs) := flat_row hMc (by rw [hlen3, List.flatMap_append]; exact htk3)
  have hMl : M < w3.heap.size := heap_lt hMc
  have hB12 : Below w.heap.size w w2 := hb01.trans (hH.below.mono hb01.size)
  have hB23 : Below w2.heap.size w2 w3 := (Below.refl _ _).grown hgr3 (Nat.le_refl _) (fun _ h => by simp at h)
  have hsz2 := hB12.size
  have hsz1 := hb01.size
  have hs2 : W1.heap.size ≤ w2.heap.size := hH.below.size
  have HROW3 : Hid (ChRow w3 M 0 (hcs ++ cs)) := hrow3
  have HH : Hid (HeldAt W1 D rs hcs w2) := hH
  have HFZ3 : Hid (∀ o, w3.frozen? ⟨M, o, none⟩ = false) := fun o => Lib.frozen_of_heap hMc o
  have HLEN3 : Hid ((hcs ++ cs).length = m + n) := hlen3
  have hsl : w.heap.size < W1.heap.size := cell_lt q0
  have q3 : w3.cell? ⟨w.heap.size, 0, none⟩ = some (.int .i64 (s : Int)) := Keep.below (X := Nowhere) hB23 _ _ (fun h => h) (Keep.below (X := Nowhere) hH.below _ _ (fun h => h) q0)
  clear hown3 hMc hcs3 htk3 hrow3 hlen3 hH hheld q0 hgr3 k0
  go_upto_region 8 with (go_at_call 41; refine (sort_any M (m + n) cap' (hcs ++ cs) _ HLEN3.out (by omega) hMl HROW3.out HFZ3.out).mono ?_; rintro x4 w4 ⟨rfl, ds, hperm, hpw, hrow4, hfz4, hB4, hblk4⟩)
  have q4 : w4.cell? ⟨w.heap.size, 0, none⟩ = some (.int .i64 (s : Int)) := (World.cell?_of_block (w := w3) (hB4.block w.heap.size (by omega))).trans q3
  have hkk : (hcs ++ cs).map (fun c => c.k) = rs.map heldK ++ cs.map (fun c => c.k) := by rw [List.map_append, HH.out.ks]
  have hpk : (ds.map fun c => c.k).Perm (rs.map heldK ++ cs.map fun c => c.k) := by rw [← hkk]; exact hperm.map _
  have hstrict : (ds.map fun c => c.k).Pairwise ksl := merged_strict hpk (List.pairwise_map.2 hpw) HA.out.good.2.2.1 HA.out.srt (fun k hk => by
    obtain ⟨c, hc, rfl⟩ := List.mem_map.1 hk
    exact HA.out.seq c hc)
  have hsub : ∀ r, r ∈ (ds.map fun c => c.k.r) → r ∈ (Tr.leaf g rs).collect ++ cs.map (fun c => c.k.r) := by
    intro r hr
    rw [map_kr] at hr
    obtain ⟨k, hk, rfl⟩ := List.mem_map.1 hr
    rcases List.mem_append.1 (hpk.mem_iff.1 hk) with h | h
    · obtain ⟨r', hr', rfl⟩ := List.mem_map.1 h
      exact List.mem_append_left _ hr'
    · obtain ⟨c, hc, rfl⟩ := List.mem_map.1 h
      exact List.mem_append_right _ (List.mem_map_of_mem hc)
  have hK24 : Keep Nowhere w2 w4 := fun x v hx hv => by
    have h1 := Keep.below (X := Nowhere) hB23 x v hx hv
    have hlt := cell_lt hv
    exact (World.cell?_of_block (w := w3) (hblk4 x.block (by omega) (by have := hB23.size; omega))).trans h1
  have HR4 : Hid (RowOK w4 M 0 (m + n) cap' ds d P) := by
    refine ⟨HA.out.d16, by rw [hperm.length_eq]; exact HLEN3.out, by omega, by omega, hcap1, hcap2, hrow4, ?_, hfz4, hstrict, ?_, fun a ha b hb => HA.out.one a (hsub a ha) b (hsub b hb), fun c hc => HA.out.hr _ (hsub _ (List.mem_map_of_mem hc))⟩
    · intro c hc
      have hw2 : Small c.k.r ∧ (c.k.put = true → ∃ rb ro, c.route = some ⟨rb, ro, none⟩ ∧ RouteAt w2 rb ro c.k.r) ∧ (c.k.put = false → c.route = none) := by
        rcases List.mem_append.1 (hperm.mem_iff.1 hc) with h | h
        · obtain ⟨h1, h2, h3⟩ := HH.out.rts c h
          refine ⟨h1, fun hp => ?_, h3⟩
          obtain ⟨rb, ro, e1, _, e3⟩ := h2 hp
          exact ⟨rb, ro, e1, e3⟩
        · obtain ⟨h1, h2, h3⟩ := (HA1.out.rts.keep (Keep.below (X := Nowhere) HH.out.below) (fun _ h => h.elim)) c h
          refine ⟨h1, fun hp => ?_, h3⟩
          obtain ⟨rb, ro, e1, _, e3⟩ := h2 hp
          exact ⟨rb, ro, e1, e3⟩
      obtain ⟨h1, h2, h3⟩ := hw2
      refine ⟨h1, fun hp => ?_, h3⟩
      obtain ⟨rb, ro, e1, e3⟩ := h2 hp
      have := cell_lt (e3.tx 0 (by omega))
      simp at this
      exact ⟨rb, ro, e1, by omega, e3.keep hK24 (fun _ h => h.elim)⟩
    · intro c hc
      rcases List.mem_append.1 (hsub _ (List.mem_map_of_mem (f := fun c : C => c.k.r) hc)) with h | h
      · exact HA.out.good.2.2.2 _ h
      · obtain ⟨c', hc', e⟩ := List.mem_map.1 h
        rw [← e]
        exact HA.out.pre c' hc'
  have HR5 : Hid (RowOK w4.drew M 0 (m + n) cap' ds d P) := HR4.out.drew
  have HPK : Hid ((ds.map fun c => c.k).Perm (rs.map heldK ++ cs.map fun c => c.k)) := hpk
  have HST : Hid ((ds.map fun c => c.k).Pairwise ksl) := hstrict
  have HK24 : Hid (Keep Nowhere w2 w4) := hK24
  have hB04 : Below w.heap.size w w4 := (hB12.trans (hB23.mono hsz2)).trans (hB4.mono (by omega))
  have hs3 := hB4.size
  clear hperm hpw hrow4 hfz4 hkk hpk hstrict hsub hK24 HR4 hblk4 hB4 q3
  have hset := sb_settle HR5.out
  go_region_held3 (fun W5 => W5.cell? ⟨w.heap.size, 0, none⟩ = some (.int .i64 (s : Int))) (first | exact q6 | exact q5 | exact q4) (first
    | (go_at_call 38; refine hbld.mono ?_; rintro x6 w6 ⟨t', rfl, hbl6, hT6, hB6⟩; have q6 : w6.cell? ⟨w.heap.size, 0, none⟩ = some (.int .i64 (s : Int)) := (Keep.below (X := Nowhere) hB6 _ _ (fun h => h) q5))
    | (go_at_call 39; refine hset.mono ?_; rintro x5 w5 ⟨rfl, hS5⟩; have q5 : w5.cell? ⟨w.heap.size, 0, none⟩ = some (.int .i64 (s : Int)) := (hS5.keep _ _ (fun h => absurd h.1 (by show w.heap.size ≠ M; omega)) q4); have hbld := sb_build HR5.out hS5; rw [HS.out] at hbld))
  go_wp2
  go_ret
  have hs5 : w4.heap.size ≤ w5.heap.size := hS5.below.size
  have hBall : Below w.heap.size w w6 := (hB04.drew.trans (hS5.below.mono (B' := w.heap.size) (by omega))).trans (hB6.mono (by omega))
  refine ⟨t', rfl, ?_, hT6.mono (fun k hk => by have := hk.2; show k < w5.heap.size; omega), Keep.below hBall, hBall.mono (by omega), keepsOthers_of hBall, fz_below hBall hbl HA.out.fz, fun k _ hk => hBall.block k hk⟩
  have hne : cs.map (fun c => c.k) ≠ [] := by
    intro e
    have := congrArg List.length e
    rw [List.length_map, HA.out.len] at this
    simp at this
    omega
  cases d with
  | zero => exact .inr ⟨hne, _, HPK.out, HST.out, hbl6⟩
  | succ d => exact .inr ⟨hne, _, HPK.out, HST.out, hbl6⟩
end Go.Proofs.Qxb6603644a
