/-
  apply (22) on an inner node: the walk up to the loop over the runs.
-/
import Derived.Test.Qxb6603644aAppC
import Derived.Test.Qxb6603644aAppB
namespace Go.Proofs.Qxb6603644a
open Go.RowKit Go.Shelf
attribute [local go_sem] Oper.semAt_some

/-- the new inner node, its count being summed up -/
structure CU (W : World) (B0 v : Nat) (wr : World) : Prop where
  node : wr.heap[W.heap.size]? = some (.cells #[.pointer (some ⟨B0 + 1, 0, none⟩), .int .i64 (v : Nat), .slice none 0 0, .string ⟨#[]⟩] 82 (0, 0))
  below : Below W.heap.size W wr
theorem CU.put {W : World} {B0 v : Nat} {wr : World} (h : CU W B0 v wr) (u : Nat) : CU W B0 u (wr.setCell ⟨W.heap.size, 1, none⟩ (.int .i64 (u : Nat))) :=
  ⟨by rw [heap_setCell_same wr _ 1 _ _ _ h.node]; rfl, h.below.setCell (p := ⟨W.heap.size, 1, none⟩) (Nat.le_refl _) _⟩
theorem CU.drew {W : World} {B0 v : Nat} {wr : World} (h : CU W B0 v wr) : CU W B0 v wr.drew := ⟨h.node, h.below.drew⟩

set_option maxRecDepth 10000 in
set_option maxHeartbeats 8000000 in
theorem apply_inner {d : Nat} {P : Int} {g c : Nat} {ch : Nat → Tr} {w : World} {N : Nat → Prop} {b off n cap : Nat} {cs : List C} (hA : AH (d + 1) P (.inner g ch c) w N b off n cap cs) (h0 : 0 < n)
    (ih : ∀ (P : Int) (t : Tr) (w : World) (N : Nat → Prop) (b off n cap : Nat) (cs : List C), 0 < n → AH d P t w N b off n cap cs →
      Calls Try.prog 22 #[.pointer t.ptr, .int .i64 (4 * d : Nat), .slice (some ⟨b, off, none⟩) n cap] w fun x w' => ∃ t', x = .returned (.pointer t'.ptr) ∧ AP d t w N b off n cs t' w') :
    Calls Try.prog 22 #[.pointer (some ⟨g, 0, none⟩), .int .i64 (4 * (d + 1) : Nat), .slice (some ⟨b, off, none⟩) n cap] w fun x w' => ∃ t', x = .returned (.pointer t'.ptr) ∧ AP (d + 1) (.inner g ch c) w N b off n cs t' w' := by
  have hbl := hA.lt h0
  obtain ⟨hNg, h, hNh, k0, k1, kc⟩ := hA.isT
  have hnb : n ≤ 16384 := by have := hA.cnt; omega
  have hcap := hA.cap1
  have hcap2 := hA.cap2
  obtain ⟨s, hs⟩ : ∃ s, 4 * (d + 1) = s := ⟨_, rfl⟩
  have hd16 := hA.d16
  have hs4 : 4 ≤ s := by omega
  have hs64 : s ≤ 64 := by omega
  have hgl : g < w.heap.size := cell_lt k0
  have hhl : h < w.heap.size := cell_lt (kc 0 (by omega)).1
  have HA : Hid (AH (d + 1) P (.inner g ch c) w N b off n cap cs) := hA
  have KC : Hid (∀ i, i < 16 → w.cell? ⟨h, i, none⟩ = some (.pointer (ch i).ptr) ∧ IsT w N (ch i)) := kc
  have IH : Hid _ := ih
  have hrange : ∀ o, (w.alloc o).rangeAt h 0 (ptrL ch) := fun o => ptrL_range (fun i hi => keep_new w o _ _ (fun h => h) (kc i hi).1)
  rw [hs]
  have HS : Hid (4 * (d + 1) = s) := hs
  clear hA hs kc ih
  refine (callsIn_wide (n := 5)).1 (callsIn_of_wp_marks Try.func22 rfl trivial ((wpIn_wide (n := 5)).2 ?_))
  simp only [Try.ntmps22, List.size_toArray, List.length_cons, List.length_nil, Nat.reduceAdd, Nat.reduceSub, Array.replicate_succ, Array.replicate_zero, List.push_toArray, List.append_toArray, List.nil_append, List.cons_append]
  have hth : ∀ o, ((w.alloc o).alloc (.cells #[.pointer none, .pointer none, .pointer none, .pointer none, .pointer none, .pointer none, .pointer none, .pointer none, .pointer none, .pointer none, .pointer none, .pointer none, .pointer none, .pointer none, .pointer none, .pointer none] 87)).there (w.heap.size + 1) 0 (ptrL ch).length := fun o j hj => by
    have hnew := heap_alloc_new (w.alloc o) (.cells #[.pointer none, .pointer none, .pointer none, .pointer none, .pointer none, .pointer none, .pointer none, .pointer none, .pointer none, .pointer none, .pointer none, .pointer none, .pointer none, .pointer none, .pointer none, .pointer none] 87)
    rw [World.size_alloc] at hnew
    have hj16 : j < 16 := by rw [ptrL_len] at hj; exact hj
    exact ⟨by rw [Lib.cell_of_heap hnew, Nat.zero_add, nil16 j hj16]; rfl, Lib.frozen_of_heap hnew _⟩
  have HTH : Hid (∀ o, ((w.alloc o).alloc (.cells #[.pointer none, .pointer none, .pointer none, .pointer none, .pointer none, .pointer none, .pointer none, .pointer none, .pointer none, .pointer none, .pointer none, .pointer none, .pointer none, .pointer none, .pointer none, .pointer none] 87)).there (w.heap.size + 1) 0 (ptrL ch).length) := hth
  have HRG : Hid (∀ o, (w.alloc o).rangeAt h 0 (ptrL ch)) := hrange
  clear hth hrange
  go_upto_region 9 with fail
  go_upto_region 10 with (first
    | (refine wpList_load_mid rfl 87 _ rfl h 0 rfl (ptrL ch) _ (HRG.out _) Try.underlying87 rfl (by rw [ptrL_len]; exact Try.size87) ?_)
    | (refine wpList_store_named rfl rfl 87 _ _ rfl (w.heap.size + 1) 0 (ptrL ch) rfl rfl (HTH.out _) (by rw [ptrL_len]; exact Try.size87) (ptrL_one ch) ?_; intro W2 hW2))
  have hsz2 : Hid (W2.heap.size = w.heap.size + 2) := by show _ = _; rw [hW2.out, size_setCells]; simp
  have hB02 : Below w.heap.size w W2 := by
    rw [hW2.out]
    exact Below.setCells' (((Below.refl w.heap.size w).alloc (Nat.le_refl _) _).alloc (by simp) _) (by omega) _ _
  have hs2 : W2.heap[w.heap.size]? = some (.cells #[.int .i64 (s : Int)] 3 (0, 0)) := by
    rw [hW2.out, heap_setCells _ _ _ _ _ (by omega), Below.heap_alloc _ _ _ (by simp)]
    exact heap_alloc_new _ _
  have hq2 : W2.cell? ⟨w.heap.size, 0, none⟩ = some (.int .i64 (s : Int)) := by rw [Lib.cell_of_heap hs2]; rfl
  have hkid : Hid (∀ i, i < 16 → W2.cell? ⟨w.heap.size + 1, i, none⟩ = some (.pointer (ch i).ptr)) := fun i hi => by
    have := World.rangeAt_setCells_same ((w.alloc (.cells #[.int .i64 (s : Int)] 3)).alloc (.cells #[.pointer none, .pointer none, .pointer none, .pointer none, .pointer none, .pointer none, .pointer none, .pointer none, .pointer none, .pointer none, .pointer none, .pointer none, .pointer none, .pointer none, .pointer none, .pointer none] 87)) (w.heap.size + 1) 0 (ptrL ch) (HTH.out _)
    rw [← hW2.out] at this
    have h1 := this i _ (ptrL_at ch i hi)
    rwa [Nat.zero_add] at h1
  have hkfz : Hid (∀ i, W2.frozen? ⟨w.heap.size + 1, i, none⟩ = false) := fun i => by
    rw [hW2.out, World.frozen?_setCells]
    have hnew := heap_alloc_new (w.alloc (.cells #[.int .i64 (s : Int)] 3)) (.cells #[.pointer none, .pointer none, .pointer none, .pointer none, .pointer none, .pointer none, .pointer none, .pointer none, .pointer none, .pointer none, .pointer none, .pointer none, .pointer none, .pointer none, .pointer none, .pointer none] 87)
    rw [World.size_alloc] at hnew
    exact Lib.frozen_of_heap hnew _
  have hby : Calls Try.prog 43 #[.slice (some ⟨b, off, none⟩) n cap, .int .i64 (s : Int)] W2 fun x w' => x = .returned (.func (.func 52) #[] #[.pointer (some ⟨w.heap.size + 2, 0, none⟩), .pointer (some ⟨w.heap.size + 3, 0, none⟩)]) ∧
      Hid (w' = (W2.alloc (.cells #[.slice (some ⟨b, off, none⟩) n cap] 28)).alloc (.cells #[.int .i64 (s : Int)] 3)) := by
    have := bySlot_any (.slice (some ⟨b, off, none⟩) n cap) s W2 ⟨_, _, _, rfl⟩
    rw [hsz2.out] at this
    exact this.mono fun _ _ h => ⟨h.1, h.2⟩
  have hq3 : Hid (W2.cell? ⟨w.heap.size, 0, none⟩ = some (.int .i64 (s : Int))) := hq2
  clear hs2 HTH HRG hW2
  have HM : Hid (Mono cs s) := by
    have h1 : (cs.map fun c => c.k).Pairwise fun a b => a.r.hash ≤ b.r.hash := HA.out.srt.imp fun {a b} h => by
      rcases h with (h | ⟨h, _⟩) | ⟨⟨h, _⟩, _⟩ <;> omega
    have h4 := mono_of h1 HA.out.pre
    rw [HS.out] at h4
    exact h4
  have HHC : Hid (∀ i, i < n → 0 ≤ (cAt cs i).hash ∧ (cAt cs i).hash < 18446744073709551616) := fun i hi => HA.out.hr _ (List.mem_append_right _ (List.mem_map_of_mem (cAt_mem (by rw [HA.out.len]; exact hi))))
  go_wp2_with (go_at_call 43; refine hby.mono ?_; rintro x3 W3 ⟨rfl, hW3⟩)
  clear hby hq2
  have hsz3 : W3.heap.size = w.heap.size + 4 := by rw [hW3.out]; simp [hsz2.out]
  have hB23 : Below W2.heap.size W2 W3 := by
    rw [hW3.out]
    exact ((Below.refl W2.heap.size W2).alloc (Nat.le_refl _) _).alloc (by simp) _
  have hB03 : Below w.heap.size w W3 := hB02.trans (hB23.mono hB02.size)
  have hAU : AU w d b off N ch cs (pos []) W3 := by
    have hK23 : Keep Nowhere W2 W3 := Keep.below hB23
    refine ⟨⟨ch, fun i hi => ⟨hK23 _ _ (fun h => h) (hkid.out i hi), ?_, ?_⟩⟩, fun i => (World.frozen?_of_block (w := W2) (hB23.block (w.heap.size + 1) (by rw [hsz2.out]; omega))).trans (hkfz.out i), ?_, Keep.below hB03, hB03.mono (by omega), keepsOthers_of hB03, fz_below hB03 hbl HA.out.fz, by omega, fun k _ hk => hB03.block k hk⟩
    · show ApR d (ch i) (([] : List C).map _) (ch i)
      exact ap_nil d (ch i)
    · have hg := HA.out.good
      obtain ⟨d', hd', _, _, hgc⟩ := hg
      refine ((KC.out i hi).2.other (N' := NN N w.heap.size) (fun k hk => ?_) (hgc i hi)).keep (Keep.below (X := Nowhere) hB03) (fun _ h => h.elim)
      rcases hk with hk | hk
      · exact .inl hk.1
      · exact .inr hk.1
    · rw [HS.out]
      exact hK23 _ _ (fun h => h) hq3.out
  have hAt : At (w.heap.size + 2) (w.heap.size + 3) b off n cap s cs (pos []) (pos []) W3 := by
    have f2 : W3.heap[w.heap.size + 2]? = some (.cells #[.slice (some ⟨b, off, none⟩) n cap] 28 (0, 0)) := by
      rw [hW3.out, ← hsz2.out, Below.heap_alloc _ _ _ (by simp)]
      exact heap_alloc_new _ _
    have f3 : W3.heap[w.heap.size + 3]? = some (.cells #[.int .i64 (s : Int)] 3 (0, 0)) := by
      have := heap_alloc_new (W2.alloc (.cells #[.slice (some ⟨b, off, none⟩) n cap] 28)) (.cells #[.int .i64 (s : Int)] 3)
      rw [World.size_alloc, hsz2.out] at this
      rw [hW3.out]
      exact this
    refine ⟨fun i _ hi => Keep.below (X := Nowhere) hB03 _ _ (fun h => h) (HA.out.row i hi).1, ?_, Lib.frozen_of_heap f2 0, ⟨b, off, none⟩, ?_, fun _ => by simp [pos]⟩
    · rw [Lib.cell_of_heap f3]
      rfl
    · rw [Lib.cell_of_heap f2]
      rfl
  clear hkid hkfz hB02 hB23 hW3 hsz2 hq3
  refine (wpIn_wide (n := 5)).1 (range_own (F := Fence.wide) rfl (by omega) (gf := 52) (lb := #[.pointer (some ⟨w.heap.size + 2, 0, none⟩), .pointer (some ⟨w.heap.size + 3, 0, none⟩)]) rfl trivial (enters_of Try.func52 (by kernel_rfl) rfl)
    (encs := encR b off cap) (fun _ => rfl) (c := w.heap.size + 2) (by omega) (xs := runsF cs s n 0)
    (Inv := fun pre W => AU w d b off N ch cs (pos pre) W ∧ At (w.heap.size + 2) (w.heap.size + 3) b off n cap s cs (pos pre) (pos pre) W)
    (Inv2 := fun pre W => AU w d b off N ch cs (pos pre) W ∧ ∃ q x, pre = q ++ [x] ∧ At (w.heap.size + 2) (w.heap.size + 3) b off n cap s cs (pos pre) (pos q) W)
    ?hI ?hI2 (bySlot_iter (5 - 1) _ _ b off n cap s cs HA.out.len (by omega) hcap hcap2 hs4 hs64 HHC.out (by omega) (by omega) (fun pre W => AU w d b off N ch cs (pos pre) W) (fun pre W v h => h.set hbl v) (fun pre W q h => h.drewN hbl q)) ⟨hAU, hAt⟩
    (fun x => { tmps := (.pointer (some ⟨g, 0, none⟩) :: .int .i64 s :: .slice (some ⟨b, off, none⟩) n cap :: undef :: .pointer (some ⟨w.heap.size, 0, none⟩) :: undef :: .pointer none :: undef :: .pointer (some ⟨w.heap.size + 1, 0, none⟩) :: .int .i64 x.1 :: .slice (some ⟨b, off + x.2.1 * 4, none⟩) x.2.2 (cap - x.2.1) :: undef :: undef :: undef :: .slice (some ⟨b, off, none⟩) n cap :: .int .i64 n :: .bool false :: undef :: .pointer (some ⟨g, 0, none⟩) :: .bool false :: undef :: undef :: undef :: undef :: .pointer (some ⟨g, 0, none⟩) :: .pointer (some ⟨g, 0, none⟩) :: .pointer (some ⟨g, 0, none⟩) :: .pointer (some ⟨h, 0, none⟩) :: .bool false :: undef :: undef :: undef :: undef :: undef :: undef :: undef :: undef :: undef :: undef :: .pointer (some ⟨g, 0, none⟩) :: .pointer (some ⟨g, 0, none⟩) :: .pointer (some ⟨g, 0, none⟩) :: .pointer (some ⟨h, 0, none⟩) :: .pointer (some ⟨h, 0, none⟩) :: .agg (ptrL ch).toArray :: .slice (some ⟨b, off, none⟩) n cap :: .int .i64 s :: .func (.func 52) #[] #[.pointer (some ⟨w.heap.size + 2, 0, none⟩), .pointer (some ⟨w.heap.size + 3, 0, none⟩)] :: .int .i64 x.1 :: .slice (some ⟨b, off + x.2.1 * 4, none⟩) x.2.2 (cap - x.2.1) :: undef :: undef :: undef :: undef :: undef :: undef :: undef :: undef :: undef :: undef :: undef :: undef :: undef :: undef :: undef :: undef :: undef :: undef :: undef :: undef :: undef :: undef :: undef :: undef :: undef :: undef :: undef :: undef :: undef :: undef :: undef :: undef :: undef :: undef :: undef :: undef :: undef :: undef :: undef :: []).toArray, defers := [] }) ?assign ?body ?done)
  case hI => exact ⟨fun pre W l o o' h hl hlo ho => ⟨h.1.put hbl (by omega) hlo ho, h.2.put (by omega) hlo ho⟩, fun pre W o h => ⟨h.1.alloc hbl o, h.2.alloc o⟩⟩
  case hI2 => exact ⟨fun pre W l o o' h hl hlo ho => ⟨h.1.put hbl (by omega) hlo ho, by obtain ⟨_, q, x, h1, h2⟩ := h; exact ⟨q, x, h1, h2.put (by omega) hlo ho⟩⟩, fun pre W o h => ⟨h.1.alloc hbl o, by obtain ⟨_, q, x, h1, h2⟩ := h; exact ⟨q, x, h1, h2.alloc o⟩⟩⟩
  case assign =>
    intro l x W K hK
    simp only [encR]
    gi_wp2
    exact hK
  case body =>
    rintro l pre ⟨i, p, k⟩ rest W hxs ⟨hU, hAA⟩
    obtain ⟨hp1, hk0, hk, hall, hbef⟩ := runs_at cs s n 0 pre (i, p, k) rest (Nat.zero_le _) (.inl rfl) hxs
    simp only [Nat.zero_add] at hp1 hk0 hk hall hbef
    subst hp1
    obtain ⟨p, hpp⟩ : ∃ p, pos pre = p := ⟨_, rfl⟩
    rw [hpp] at hk hall hbef hU hAA ⊢
    have hir := slot_range (cAt cs p).hash s
    rw [hall p (Nat.le_refl _) (by omega)] at hir
    obtain ⟨j, rfl, hj16⟩ : ∃ j : Nat, i = (j : Int) ∧ j < 16 := ⟨i.toNat, by omega, by omega⟩
    have hno := mono_none HM.out (by omega) (hall p (Nat.le_refl _) (by omega)) hbef
    have HALL : Hid (∀ q, p ≤ q → q < p + k → slotOf (cAt cs q).hash (4 * (d + 1)) = (j : Int)) := by rw [HS.out]; exact hall
    have HNO : Hid (∀ q, q < p → slotOf (cAt cs q).hash (4 * (d + 1)) ≠ (j : Int)) := by rw [HS.out]; exact hno
    obtain ⟨hch, hcj⟩ := hU.child HA.out hbl hk0 hk hj16 HALL.out HNO.out
    have e4 : ((s : Int) - 4) = ((4 * d : Nat) : Int) := by have := HS.out; omega
    have hcall := IH.out _ _ _ _ _ _ _ _ _ hk0 hch.drew
    rw [← e4] at hcall
    have hsh := hU.sh
    rw [HS.out] at hsh
    have hfj := hU.fz j
    have hsz := hU.size
    have HU : Hid (AU w d b off N ch cs p W) := hU
    have HAA : Hid (At (w.heap.size + 2) (w.heap.size + 3) b off n cap s cs p p W) := hAA
    have HPP : Hid (pos pre = p) := hpp
    refine apply_body (pj := (ch j).ptr) (R := fun W' => KeepsOthers W W' ∧ AU w d b off N ch cs (pos (pre ++ [((j : Int), p, k)])) W' ∧ ∃ q x, pre ++ [((j : Int), p, k)] = q ++ [x] ∧ At (w.heap.size + 2) (w.heap.size + 3) b off n cap s cs (pos (pre ++ [((j : Int), p, k)])) (pos q) W')
      (Post := fun t w5 => AP d (ch j) W.drew (NN N w.heap.size) b (off + p * 4) k (seg cs p k) t w5) hs4 hs64 hj16 hcj hsh hcall ?_
    intro t w5 hP
    have hcj5 : w5.cell? ⟨w.heap.size + 1, j, none⟩ = some (.pointer (ch j).ptr) := hP.keep _ _ (fun hh => absurd hh.1 (by show w.heap.size + 1 ≠ b; omega)) hcj
    have hfj5 : w5.frozen? ⟨w.heap.size + 1, j, none⟩ = false := (World.frozen?_of_block (w := W.drew) (hP.blk (w.heap.size + 1) (by omega) (by show _ < W.heap.size; omega))).trans hfj
    have hps : pos (pre ++ [((j : Int), p, k)]) = p + k := by rw [pos_snoc, HPP.out]
    refine ⟨hcj5, hfj5, ((KeepsOthers.drew W).trans hP.others).trans (KeepsOthers.setCell _ _ _), ?_, pre, _, rfl, ?_⟩
    · rw [hps]
      exact AU.round (HU.out.drewN hbl 1) hbl HA.out.nb hk hj16 HALL.out HNO.out hP
    · rw [HPP.out, hps]
      obtain ⟨ad, h1, h2⟩ := HAA.out.cur
      have hKW : Keep (Seg b (off + p * 4) (off + p * 4 + k * 4)) W w5 := fun x v hx hv => hP.keep x v hx hv
      have hK2 : Keep (fun x => x.block = w.heap.size + 1) w5 (w5.setCell ⟨w.heap.size + 1, j, none⟩ (.pointer t.ptr)) := (Keep.refl _ _).setCell _ _ (.inl rfl)
      have hnS : ∀ (c o : Nat), w.heap.size ≤ c → ¬ Seg b (off + p * 4) (off + p * 4 + k * 4) ⟨c, o, none⟩ := fun c o hc hh => by have := hh.1; simp at this; omega
      refine ⟨fun q hq1 hq2 => hK2 _ _ (by show b ≠ w.heap.size + 1; omega) (hKW _ _ (fun hh => ?_) (HAA.out.row q (by omega) hq2)), hK2 _ _ (by simp) (hKW _ _ (hnS _ _ (by omega)) HAA.out.sh), ?_, ad, hK2 _ _ (by simp) (hKW _ _ (hnS _ _ (by omega)) h1), h2⟩
      · have := hh.2.2
        simp at this
        omega
      · rw [World.frozen?_setCell]
        exact (World.frozen?_of_block (w := W.drew) (hP.blk (w.heap.size + 2) (by omega) (by show _ < W.heap.size; omega))).trans HAA.out.fz
  case done =>
    rintro D W hD ⟨hU, hAA⟩ hK
    have hpn : pos (runsF cs s n 0) = n := by
      have := runs_pos cs s n 0 (Nat.zero_le _) (by rw [HA.out.len]; omega)
      rw [Nat.zero_add, HA.out.len] at this
      exact this
    rw [hpn] at hU
    obtain ⟨T, hT⟩ := hU.kids
    have hap : ∀ i, i < 16 → ApR d (ch i) (kInSlot d i (cs.map fun c => c.k)) (T i) := fun i hi => kids_ap (by rw [HA.out.len]; exact (hT i hi).2.1)
    have hgood := kids_good HA.out hap
    have HT : Hid (∀ i, i < 16 → W.cell? ⟨w.heap.size + 1, i, none⟩ = some (.pointer (T i).ptr) ∧ IsT W (NN N w.heap.size) (T i)) := fun i hi => ⟨(hT i hi).1, (hT i hi).2.2⟩
    have HAP : Hid (∀ i, i < 16 → ApR d (ch i) (kInSlot d i (cs.map fun c => c.k)) (T i)) := hap
    have HG : Hid (∀ i, i < 16 → Good (T i) d (P * 16 + i) ∧ (T i).cnt ≤ 16384) := hgood
    have HU : Hid (AU w d b off N ch cs n W) := hU
    have hszW := hU.size
    have hsh := hU.sh
    rw [HS.out] at hsh
    clear hT hap hgood hAA hpn hAU hAt hU
    have hrg : W.rangeAt (w.heap.size + 1) 0 (ptrL T) := ptrL_range (fun i hi => (HT.out i hi).1)
    have HRG : Hid (W.rangeAt (w.heap.size + 1) 0 (ptrL T)) := hrg
    clear hrg
    go_upto_region 15 with fail
    obtain ⟨W4, hW4⟩ : ∃ W4, W4 = W.alloc (.cells #[.pointer (some ⟨w.heap.size + 1, 0, none⟩), .int .i64 0, .slice none 0 0, .string ⟨#[]⟩] 82) := ⟨_, rfl⟩
    rw [← hW4]
    have hC4 : CU W w.heap.size (psum T 0) W4 := by
      rw [hW4]
      exact ⟨heap_alloc_new _ _, (Below.refl _ _).alloc (Nat.le_refl _) _⟩
    have hrg4 : W4.rangeAt (w.heap.size + 1) 0 (ptrL T) := fun j v hj => Keep.below (X := Nowhere) hC4.below _ _ (fun h => h) (HRG.out j v hj)
    clear hW4 HRG
    go_upto_region 16 with (refine wpList_load_mid rfl 87 _ rfl (w.heap.size + 1) 0 rfl (ptrL T) _ hrg4 Try.underlying87 rfl (by rw [ptrL_len]; exact Try.size87) ?_)
    clear hrg4
    have hDW : D < W.heap.size := heap_lt hK
    have HK : Hid (W.heap[D]? = some (.deferred (some []))) := hK
    clear hK
    go_loopw [62] (fun i wr => ∃ q : Nat, q ≤ 16 ∧ i = .int .i64 q ∧ Hid (CU W w.heap.size (psum T q) wr)) (fun i _ => 16 - (intOf i).toNat)
    case atStart => exact ⟨0, Nat.zero_le _, rfl, hC4⟩
    case round =>
      clear hC4
      obtain ⟨q, hq, rfl, hC⟩ := hrel
      have hn0 : wr.cell? ⟨W.heap.size, 0, none⟩ = some (.pointer (some ⟨w.heap.size + 1, 0, none⟩)) := by rw [Lib.cell_of_heap hC.out.node]; rfl
      have hn1 : wr.cell? ⟨W.heap.size, 1, none⟩ = some (.int .i64 (psum T q : Nat)) := by rw [Lib.cell_of_heap hC.out.node]; rfl
      have hf1 : wr.frozen? ⟨W.heap.size, 1, none⟩ = false := Lib.frozen_of_heap hC.out.node 1
      have hps := psum_le T 16384 (fun i hi => (HG.out i hi).2) q hq
      obtain ⟨S, hS⟩ : ∃ S, psum T q = S := ⟨_, rfl⟩
      rw [hS] at hn1 hps hC
      have HSQ : Hid (psum T q = S) := hS
      clear hS
      have hSb : S ≤ 262144 := by omega
      clear hps
      by_cases hlt : q < 16
      · have hX := index_ptrL T q hlt
        have hsucc : Hid (psum T (q + 1) = S + (T q).cnt) := by show _ = _; rw [psum_succ, HSQ.out]
        rcases cnt_cell (HT.out q hlt).2 with ⟨hp, h0c⟩ | ⟨gq, hp, hcq⟩
        · rw [hp] at hX
          have hsucc2 : Hid (psum T (q + 1) = S) := by show _ = _; rw [hsucc.out, h0c]; rfl
          clear hp h0c hsucc
          go_wp2
          go_roundw
          case rel => exact ⟨q + 1, hlt, by go_num, by rw [hsucc2.out]; exact hC⟩
          case measure => simp [intOf]; omega
        · rw [hp] at hX
          have hcq2 := Keep.below (X := Nowhere) hC.out.below _ _ (fun h => h) hcq
          have hcb := (HG.out q hlt).2
          obtain ⟨v, hv⟩ : ∃ v, (T q).cnt = v := ⟨_, rfl⟩
          rw [hv] at hcq2 hsucc hcb
          clear hp hcq hv
          have hadd : (S : Int) + (v : Int) ≤ 9223372036854775807 := by omega
          have hC2 : Hid (CU W w.heap.size (S + v) (wr.setCell ⟨W.heap.size, 1, none⟩ (.int .i64 ((S + v : Nat) : Int)))) := hC.out.put (S + v)
          go_wp2
          go_region
          go_wp2
          go_roundw
          case rel => exact ⟨q + 1, hlt, by go_num, by rw [hsucc.out]; exact hC2.out.drew⟩
          case measure => simp [intOf]; omega
      · obtain rfl : q = 16 := by omega
        have hSC : Hid (sumC T = S) := HSQ.out
        have hwr := hC.out.below.size
        have hDr : Hid (wr.heap[D]? = some (.deferred (some []))) := (hC.out.below.block D hDW).trans HK.out
        have hgw : W.heap.size < wr.heap.size := cell_lt hn1
        have hne : Hid (cs.map (fun c => c.k) ≠ []) := by
          intro e
          have := congrArg List.length e
          rw [List.length_map, HA.out.len] at this
          simp at this
          omega
        have hKr : Hid (Keep (Seg b off (off + n * 4)) w wr) := HU.out.keep.trans (Keep.below hC.out.below)
        have hTr : Hid (∀ i, i < 16 → wr.cell? ⟨w.heap.size + 1, i, none⟩ = some (.pointer (T i).ptr) ∧ IsT wr (NN N w.heap.size) (T i)) := fun i hi =>
          ⟨Keep.below (X := Nowhere) hC.out.below _ _ (fun h => h) (HT.out i hi).1, (HT.out i hi).2.keep (Keep.below (X := Nowhere) hC.out.below) (fun _ h => h.elim)⟩
        have hInn : Hid (∀ N' : Nat → Prop, ¬ N' W.heap.size → ¬ N' (w.heap.size + 1) → (∀ k, N' k → NN N w.heap.size k) → IsT wr N' (.inner W.heap.size T S)) := fun N' h1 h2 h3 =>
          ⟨h1, w.heap.size + 1, h2, hn0, hn1, fun i hi => ⟨(hTr.out i hi).1, (hTr.out i hi).2.mono h3⟩⟩
        have hshr := Keep.below (X := Nowhere) hC.out.below _ _ (fun h => h) hsh
        by_cases h32 : 32 < S
        · clear HT HG
          go_wp2
          refine ⟨by simp, .inl ⟨_, _, rfl, run_takeDeferred hDr.out, ?_⟩⟩
          have hKK : Keep Nowhere wr (wr.putObj D (.deferred none)) := (Keep.refl _ _).putObj hDr.out rfl
          have hBp : Below w.heap.size wr (wr.putObj D (.deferred none)) := ⟨rfl, rfl, rfl, by simp [World.putObj], fun k hk => World.putObj_heap_other (by omega)⟩
          refine ⟨_, results_tmp rfl _ _ _, .inner W.heap.size T S, rfl, ?_, ?_, ?_, ?_, ?_, ?_, ?_⟩
          · exact .inr ⟨hne.out, T, HAP.out, .inl ⟨by rw [hSC.out]; exact h32, W.heap.size, by rw [hSC.out]⟩⟩
          · refine (hInn.out (fun k => N k ∧ k < w.heap.size) (fun hh => ?_) (fun hh => ?_) (fun k hk => .inl hk)).keep hKK (fun _ h => h.elim)
            · have := hh.2; omega
            · have := hh.2; omega
          · exact fun x v hx hv => hKK x v (fun h => h) (hKr.out x v hx hv)
          · exact (HU.out.below.trans (hC.out.below.mono (by omega))).trans (hBp.mono (by omega))
          · exact ⟨by simpa [World.putObj] using Nat.le_trans HU.out.others.size hwr, fun k o hk hc => (World.putObj_heap_other (by have := heap_lt hk; omega)).trans ((HU.out.others.trans (keepsOthers_of hC.out.below)).same k o hk hc)⟩
          · exact fun o => (World.frozen?_of_block (w := wr) (World.putObj_heap_other (show b ≠ D by omega))).trans (fz_below hC.out.below (by omega) HU.out.bz o)
          · intro k hk hl
            rw [World.putObj_heap_other (by omega), hC.out.below.block k (by omega), HU.out.blk k hk hl]
        · have hS32 : S ≤ 32 := by omega
          have HIN : Hid (IsT wr.drew (fun _ => False) (.inner W.heap.size T S)) := IsT.keep (X := Nowhere) (w := wr) (w' := wr.drew) (fun _ _ _ h => h) (fun _ h => h.elim) (hInn.out (fun _ => False) (fun h => h) (fun h => h) (fun _ h => h.elim))
          have hheld := held_inner HG.out hSC.out hS32 HIN.out
          have hlenS : Hid ((pc T 16).length = S) := (pc_len HG.out).trans hSC.out
          have HDD : Hid (d + 1 ≤ 16) := hd16
          clear HT HIN hInn hTr hn0
          go_wp2
          go_region_held3 (fun W5 => W5.cell? ⟨w.heap.size, 0, none⟩ = some (.int .i64 (s : Int))) (first | exact q6 | exact q5 | exact hshr) (first
            | (go_at_call 38; refine hbld.mono ?_; rintro x6 w6 ⟨t', rfl, hbl6, hT6, hB6⟩; have q6 : w6.cell? ⟨w.heap.size, 0, none⟩ = some (.int .i64 (s : Int)) := (Keep.below (X := Nowhere) hB6 _ _ (fun h => h) q5))
            | (go_at_call 40; refine hheld.mono ?_; rintro x5 w5 ⟨D5, hcs5, rfl, hH5⟩; have q5 : w5.cell? ⟨w.heap.size, 0, none⟩ = some (.int .i64 (s : Int)) := (Keep.below (X := Nowhere) hH5.below _ _ (fun h => h) hshr); have hbld := held_build HDD.out hlenS.out hS32 hH5; rw [HS.out] at hbld))
          go_wp2
          have hs5 : wr.heap.size ≤ w5.heap.size := hH5.below.size
          have hBr6 : Below wr.heap.size wr w6 := ((Below.refl wr.heap.size wr).drew.trans hH5.below).trans (hB6.mono hs5)
          have hD6 : w6.heap[D]? = some (.deferred (some [])) := (hBr6.block D (by omega)).trans hDr.out
          refine ⟨by simp, .inl ⟨_, _, rfl, run_takeDeferred hD6, ?_⟩⟩
          have hKK : Keep Nowhere w6 (w6.putObj D (.deferred none)) := (Keep.refl _ _).putObj hD6 rfl
          have hsz6 := hBr6.size
          refine ⟨_, results_tmp rfl _ _ _, t', rfl, ?_, ?_, ?_, ?_, ?_, ?_, ?_⟩
          · exact .inr ⟨hne.out, T, HAP.out, .inr ⟨by rw [hSC.out]; exact hS32, hbl6⟩⟩
          · refine (hT6.mono (N' := fun k => N k ∧ k < w.heap.size) (fun k hk => ?_)).keep hKK (fun _ h => h.elim)
            have := hk.2
            show k < w5.heap.size
            omega
          · exact fun x v hx hv => hKK x v (fun h => h) (Keep.below (X := Nowhere) hBr6 x v (fun h => h) (hKr.out x v hx hv))
          · refine ((HU.out.below.trans (hC.out.below.mono (by omega))).trans (hBr6.mono (by omega))).trans ⟨rfl, rfl, rfl, by simp [World.putObj], fun k hk => World.putObj_heap_other (by omega)⟩
          · exact ⟨by simpa [World.putObj] using Nat.le_trans (Nat.le_trans HU.out.others.size hwr) hsz6, fun k o hk hc => (World.putObj_heap_other (by have := heap_lt hk; omega)).trans (((HU.out.others.trans (keepsOthers_of hC.out.below)).trans (keepsOthers_of hBr6)).same k o hk hc)⟩
          · exact fun o => (World.frozen?_of_block (w := w6) (World.putObj_heap_other (show b ≠ D by omega))).trans (fz_below hBr6 (by omega) (fz_below hC.out.below (by omega) HU.out.bz) o)
          · intro k hk hl
            rw [World.putObj_heap_other (by omega), hBr6.block k (by omega), hC.out.below.block k (by omega), HU.out.blk k hk hl]
end Go.Proofs.Qxb6603644a
