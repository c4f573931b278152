/-
  THE WALK of zzShared (17): behind apply it says yes.
-/
import Derived.Test.Qxb6603644aSmall
import Derived.Test.Qxb6603644aLaw3
namespace Go.Proofs.Qxb6603644a
open Go.RowKit Go.Shelf

/-! ### plain -/
structure ApOK (d : Nat) (P : Int) (t : Tr) (ks : List K) : Prop where
  good : Good t d P
  srt : ks.Pairwise ksl
  pre : ∀ k ∈ ks, k.r.hash / 2 ^ (4 * d) = P
  seq : ∀ k ∈ ks, 0 ≤ k.seq
  one : OneHash (t.collect ++ ks.map K.r)
theorem ApOK.kid {d g c : Nat} {P : Int} {ch : Nat → Tr} {ks : List K} (h : ApOK (d + 1) P (.inner g ch c) ks) {i : Nat} (hi : i < 16) : ApOK d (P * 16 + i) (ch i) (kInSlot d i ks) := by
  obtain ⟨d', hd, _, _, hch⟩ := h.good
  obtain rfl : d = d' := by omega
  refine ⟨hch i hi, h.srt.filter _, fun k hk => ?_, fun k hk => h.seq k (mem_kInSlot.1 hk).1, ?_⟩
  · obtain ⟨h1, h2⟩ := mem_kInSlot.1 hk
    have h3 := cut16 k.r.hash d
    rw [h.pre k h1, h2] at h3
    exact h3
  · have hsub : ∀ r, r ∈ (ch i).collect ++ (kInSlot d i ks).map K.r → r ∈ (Tr.inner g ch c).collect ++ ks.map K.r := by
      intro r hr
      rcases List.mem_append.1 hr with h' | h'
      · exact List.mem_append_left _ (by simp only [Tr.collect, List.mem_flatMap]; exact ⟨i, List.mem_range.2 hi, h'⟩)
      · obtain ⟨k, hk, rfl⟩ := List.mem_map.1 h'
        exact List.mem_append_right _ (List.mem_map_of_mem (mem_kInSlot.1 hk).1)
    exact fun a ha b hb => h.one a (hsub a ha) b (hsub b hb)
theorem kIn_nil (d i : Nat) : kInSlot d i [] = [] := rfl
theorem ap_inner {d g g' c c' : Nat} {P : Int} {ch ch' : Nat → Tr} {ks : List K} (hA : ApOK (d + 1) P (.inner g ch c) ks) (h : ApR (d + 1) (.inner g ch c) ks (.inner g' ch' c')) : ∀ i, i < 16 → ApR d (ch i) (kInSlot d i ks) (ch' i) := by
  intro i hi
  unfold ApR at h
  rcases h with ⟨rfl, e⟩ | ⟨_, ch2, hk, h | ⟨h32, hb⟩⟩
  · injection e with _ e2 _
    rw [kIn_nil, e2]
    exact ap_nil d (ch i)
  · obtain ⟨_, g2, e⟩ := h
    injection e with _ e2 _
    rw [e2]
    exact hk i hi
  · exfalso
    have hlen : ((List.range 16).flatMap fun i => (ch2 i).collect).length = sumC ch2 := by
      rw [List.length_flatMap]
      unfold sumC
      congr 1
      refine List.map_congr_left fun j hj => ?_
      have hj' := List.mem_range.1 hj
      have hok := hA.kid hj'
      obtain ⟨g2, _, _⟩ := ap_good d _ _ _ (ch2 j) hok.good hok.srt hok.pre hok.seq hok.one (hk j hj')
      exact (good_all _ _ _ g2).2.2.symm
    unfold BldR at hb
    rcases hb with ⟨_, e⟩ | ⟨_, _, g2, e⟩ | ⟨h33, _⟩
    · cases e
    · cases e
    · omega

theorem same_addr (a : Addr) (w : World) : (sameAddr a a).run Try.prog w = .ok true w := by
  unfold sameAddr
  simp
theorem eq_ptr (d : Nat) (p : Option Addr) (w : World) : (Op.equalIn (d + 1) 26 (.pointer p) (.pointer p)).run Try.prog w = .ok true w := by
  cases p with
  | none => simp [Op.equalIn, run_underlying Try.underlying26]
  | some a =>
    have hz : (sizeOf 82).run Try.prog w = .ok 4 w := by kernel_rfl
    simp [Op.equalIn, run_underlying Try.underlying26, hz, same_addr]
theorem neq_ptr (p : Option Addr) (w : World) : (binOp .neq 26 (.pointer p) (.pointer p)).run Try.prog w = .ok (.bool false) w := by
  have h : (Op.equalIn 10000 26 (.pointer p) (.pointer p)).run Try.prog w = .ok true w := eq_ptr 9999 p w
  simp only [binOp]
  simp [Op.equal, Op.maxDepth, h]

/-! ### the walk -/
def SharedP (t1 t2 : Tr) (d dep : Nat) (zs : List Z) : Prop := ∀ (w : World) (ao : Option Addr) (n cap b : Nat), IsT w (fun _ => False) t1 → IsT w (fun _ => False) t2 → (n = 0 ∨ ao = some ⟨b, 0, none⟩) → zs.length = n → n ≤ 4096 → ZRow w b 0 zs → (∀ z ∈ zs, HrZ z) →
  Calls Try.prog 17 #[.pointer t1.ptr, .pointer t2.ptr, .slice ao n cap, .int .i64 (4 * d : Nat), .int .i64 (dep : Nat)] w fun x w' => x = .returned (.bool true) ∧ Below w.heap.size w w'

set_option maxRecDepth 10000 in
theorem sh_nil1 (p2 : Option Addr) (v : Value) (s dep : Nat) (w : World) : Calls Try.prog 17 #[.pointer none, .pointer p2, v, .int .i64 (s : Nat), .int .i64 (dep : Nat)] w fun x w' => x = .returned (.bool true) ∧ Below w.heap.size w w' := by
  go_enter Try.func17, Try.ntmps17
  go_wp2
  go_ret
  exact ⟨rfl, Below.refl _ _⟩
set_option maxRecDepth 10000 in
theorem sh_nil2 (g : Nat) (v : Value) (s dep : Nat) (w : World) : Calls Try.prog 17 #[.pointer (some ⟨g, 0, none⟩), .pointer none, v, .int .i64 (s : Nat), .int .i64 (dep : Nat)] w fun x w' => x = .returned (.bool true) ∧ Below w.heap.size w w' := by
  go_enter Try.func17, Try.ntmps17
  go_wp2
  go_ret
  exact ⟨rfl, Below.refl _ _⟩
set_option maxRecDepth 10000 in
theorem sh_low (g g2 : Nat) (v : Value) (s dep : Nat) (w : World) (hs : s < 4) : Calls Try.prog 17 #[.pointer (some ⟨g, 0, none⟩), .pointer (some ⟨g2, 0, none⟩), v, .int .i64 (s : Nat), .int .i64 (dep : Nat)] w fun x w' => x = .returned (.bool true) ∧ Below w.heap.size w w' := by
  go_enter Try.func17, Try.ntmps17
  go_wp2
  go_ret
  exact ⟨rfl, Below.refl _ _⟩
set_option maxRecDepth 10000 in
theorem sh_leaf1 (g g2 : Nat) (v : Value) (s dep : Nat) (p2 : Option Addr) (w : World) (hs : 4 ≤ s) (hd : dep ≤ 17) (c1 : w.cell? ⟨g, 0, none⟩ = some (.pointer none)) (c2 : w.cell? ⟨g2, 0, none⟩ = some (.pointer p2)) : Calls Try.prog 17 #[.pointer (some ⟨g, 0, none⟩), .pointer (some ⟨g2, 0, none⟩), v, .int .i64 (s : Nat), .int .i64 (dep : Nat)] w fun x w' => x = .returned (.bool true) ∧ Below w.heap.size w w' := by
  have hn1 : ¬ s < 4 := by omega
  have hn2 : ¬ 17 < dep := by omega
  have ha := children_any g none w c1
  have hb := children_any g2 p2 w c2
  clear c1 c2
  go_enter Try.func17, Try.ntmps17
  go_wp2_with (first
    | (go_at_call_of 25 (Value.pointer (some ⟨g, 0, none⟩)); refine ha.mono ?_; rintro x1 w ⟨rfl, rfl⟩)
    | (go_at_call_of 25 (Value.pointer (some ⟨g2, 0, none⟩)); refine hb.mono ?_; rintro x2 w ⟨rfl, rfl⟩))
  go_ret
  exact ⟨rfl, Below.refl _ _⟩
set_option maxRecDepth 10000 in
theorem sh_leaf2 (g g2 h1 : Nat) (v : Value) (s dep : Nat) (w : World) (hs : 4 ≤ s) (hd : dep ≤ 17) (c1 : w.cell? ⟨g, 0, none⟩ = some (.pointer (some ⟨h1, 0, none⟩))) (c2 : w.cell? ⟨g2, 0, none⟩ = some (.pointer none)) : Calls Try.prog 17 #[.pointer (some ⟨g, 0, none⟩), .pointer (some ⟨g2, 0, none⟩), v, .int .i64 (s : Nat), .int .i64 (dep : Nat)] w fun x w' => x = .returned (.bool true) ∧ Below w.heap.size w w' := by
  have hn1 : ¬ s < 4 := by omega
  have hn2 : ¬ 17 < dep := by omega
  have ha := children_any g (some ⟨h1, 0, none⟩) w c1
  have hb := children_any g2 none w c2
  clear c1 c2
  go_enter Try.func17, Try.ntmps17
  go_wp2_with (first
    | (go_at_call_of 25 (Value.pointer (some ⟨g, 0, none⟩)); refine ha.mono ?_; rintro x1 w ⟨rfl, rfl⟩)
    | (go_at_call_of 25 (Value.pointer (some ⟨g2, 0, none⟩)); refine hb.mono ?_; rintro x2 w ⟨rfl, rfl⟩))
  go_ret
  exact ⟨rfl, Below.refl _ _⟩

/-- the rows that lead to slot i -/
def zSlot (d i : Nat) (zs : List Z) : List Z := zs.filter fun z => slotOf z.hash (4 * (d + 1)) == (i : Int)
theorem zSlot_map (d i : Nat) (zs : List Z) : (zSlot d i zs).map ofZ = kInSlot d i (zs.map ofZ) := by
  unfold zSlot kInSlot
  rw [List.filter_map]
  rfl
theorem zSlot_take {d i : Nat} {zs : List Z} {q : Nat} (h : q < zs.length) : zSlot d i (zs.take (q + 1)) = zSlot d i (zs.take q) ++ (if slotOf (zAt zs q).hash (4 * (d + 1)) = (i : Int) then [zAt zs q] else []) := by
  unfold zSlot
  rw [List.take_add_one, List.getElem?_eq_getElem h, List.filter_append, ← zAt_eq h]
  congr 1
  by_cases e : slotOf (zAt zs q).hash (4 * (d + 1)) = (i : Int)
  · simp [e]
  · simp [e]
theorem zSlot_mem {d i : Nat} {zs : List Z} {z : Z} (h : z ∈ zSlot d i zs) : z ∈ zs := (List.mem_filter.1 h).1

set_option maxRecDepth 10000 in
set_option maxHeartbeats 4000000 in
theorem sh_inner (g g' c c' d dep : Nat) (ch ch' : Nat → Tr) (zs : List Z) (hd : d + 1 ≤ 16) (hdep : dep ≤ 16) (hkid : ∀ i, i < 16 → zSlot d i zs = [] → ch' i = ch i) (ih : ∀ i, i < 16 → SharedP (ch i) (ch' i) d (dep + 1) (zSlot d i zs)) : SharedP (.inner g ch c) (.inner g' ch' c') (d + 1) dep zs := by
  intro w ao n cap b hT1 hT2 hao hn hnb hrow hr
  obtain ⟨_, h1, _, k0, _, kc⟩ := hT1
  obtain ⟨_, h2, _, k0', _, kc'⟩ := hT2
  have IH : Hid (∀ i, i < 16 → SharedP (ch i) (ch' i) d (dep + 1) (zSlot d i zs)) := ih
  have HK : Hid (∀ i, i < 16 → zSlot d i zs = [] → ch' i = ch i) := hkid
  have KC : Hid (∀ i, i < 16 → w.cell? ⟨h1, i, none⟩ = some (.pointer (ch i).ptr) ∧ IsT w (fun _ => False) (ch i)) := kc
  have KC' : Hid (∀ i, i < 16 → w.cell? ⟨h2, i, none⟩ = some (.pointer (ch' i).ptr) ∧ IsT w (fun _ => False) (ch' i)) := kc'
  have HROW : Hid (ZRow w b 0 zs) := hrow
  have HN : Hid (zs.length = n) := hn
  have HR : Hid (∀ z ∈ zs, HrZ z) := hr
  have ha := children_any g (some ⟨h1, 0, none⟩) w k0
  have hb := children_any g' (some ⟨h2, 0, none⟩) w k0'
  obtain ⟨s, hs⟩ : ∃ s, 4 * (d + 1) = s := ⟨_, rfl⟩
  have hs4 : 4 ≤ s := by omega
  have hs64 : s ≤ 64 := by omega
  have HS : Hid (4 * (d + 1) = s) := hs
  clear ih kc kc' k0 k0' hkid hrow hn hr
  obtain ⟨i0, hi0, hz0, hz1, hz2⟩ := info_parts Try.info41
  have HZ0 : Hid _ := hz0
  clear hz0
  have hmx : Try.prog.follows .mixedOrders = true := by kernel_rfl
  show Calls Try.prog 17 #[.pointer (some ⟨g, 0, none⟩), .pointer (some ⟨g', 0, none⟩), .slice ao n cap, .int .i64 (4 * (d + 1) : Nat), .int .i64 (dep : Nat)] w _
  rw [hs]
  clear hs
  have hn1 : ¬ s < 4 := by omega
  have hn2 : ¬ 17 < dep := by omega
  go_enter Try.func17, Try.ntmps17
  go_upto_region 8 with (first
    | (go_at_call_of 25 (Value.pointer (some ⟨g, 0, none⟩)); refine ha.mono ?_; rintro x1 w ⟨rfl, rfl⟩)
    | (go_at_call_of 25 (Value.pointer (some ⟨g', 0, none⟩)); refine hb.mono ?_; rintro x2 w ⟨rfl, rfl⟩))
  clear ha hb
  go_loopw [13] (fun i wr => ∃ k : Nat, k ≤ 16 ∧ i = .int .i64 k ∧ Hid (Below w.heap.size w wr)) (fun i _ => 16 - (intOf i).toNat)
  case atStart => exact ⟨0, Nat.zero_le _, rfl, Below.refl _ _⟩
  case round =>
    obtain ⟨k, hk, rfl, hB⟩ := hrel
    by_cases hlt : k < 16
    case neg =>
      go_wp2
      go_ret
      exact ⟨rfl, hB.out⟩
    have hmo0 : Hid (MO w (.slice none 0 0) (zSlot d k (zs.take 0)) wr) := ⟨World.ownsRow_nil _ _ _ _, hB.out⟩
    have hkI : (k : Int) < 16 := by omega
    go_upto_region 12 with fail
    go_loopw [14, 15] (fun v i wr => ∃ q : Nat, q ≤ n ∧ i = .int .i64 q ∧ Hid (MO w v (zSlot d k (zs.take q)) wr)) (fun _ i _ => n - (intOf i).toNat)
    case atStart => exact ⟨0, Nat.zero_le _, rfl, hmo0⟩
    case round =>
      clear hmo0 hB
      obtain ⟨q, hq, rfl, hMO⟩ := hrel
      obtain ⟨v, rfl⟩ : ∃ v, v = u14 := ⟨_, rfl⟩
      by_cases hltq : q < n
      · obtain rfl : ao = some ⟨b, 0, none⟩ := hao.resolve_left (by omega)
        have hx : wr.rangeAt b (q * 21) (encZ (zAt zs q)) := by
          have := (HROW.out.later hMO.out.below) q (by rw [HN.out]; exact hltq)
          rw [Nat.zero_add] at this
          exact this
        have hmz : zAt zs q ∈ zs := zAt_mem (by rw [HN.out]; exact hltq)
        obtain ⟨hz0, hz1'⟩ := HR.out _ hmz
        have htk := zSlot_take (d := d) (i := k) (zs := zs) (q := q) (by rw [HN.out]; exact hltq)
        obtain ⟨z, hz⟩ : ∃ z, zAt zs q = z := ⟨_, rfl⟩
        rw [hz] at hx hz0 hz1' htk
        have x0 := hx 0 _ rfl
        rw [Nat.add_zero] at x0
        obtain ⟨h, hh⟩ : ∃ h, z.hash = h := ⟨_, rfl⟩
        rw [hh] at x0 hz0 hz1' htk
        have HTK : Hid (zSlot d k (zs.take (q + 1)) = zSlot d k (zs.take q) ++ (if slotOf h (4 * (d + 1)) = (k : Int) then [z] else [])) := htk
        have hc35 := fun W => slotOf_any h s W hz0 hz1' hs4 hs64
        obtain ⟨X, hX⟩ : ∃ X, h / 2 ^ (s - 4) % 16 = X := ⟨_, rfl⟩
        rw [hX] at hc35
        have HX : Hid (slotOf h (4 * (d + 1)) = X) := by show _ = _; unfold slotOf; rw [HS.out]; exact hX
        have hqI : (q : Int) < (n : Int) := by omega
        clear hz hh hX htk hmz
        by_cases he : X = (k : Int)
        · subst he
          have hTK2 : Hid (zSlot d k (zs.take (q + 1)) = zSlot d k (zs.take q) ++ [z]) := by
            have := HTK.out
            rw [HX.out, if_pos rfl] at this
            exact this
          have hol : (zSlot d k (zs.take q)).length ≤ 4096 := by
            unfold zSlot
            have := List.length_filter_le (fun z => slotOf z.hash (4 * (d + 1)) == (k : Int)) (zs.take q)
            rw [List.length_take] at this
            omega
          obtain ⟨os, hos⟩ : ∃ os, zSlot d k (zs.take q) = os := ⟨_, rfl⟩
          rw [hos] at hMO hTK2 hol
          have hMO8 : Hid (MO w v os (wr.alloc (.cells (encZ z).toArray 41))) := hMO.out.later ((Below.refl _ _).alloc (Nat.le_refl _) _)
          have hbx : Hid ((wr.alloc (.cells (encZ z).toArray 41)).heap[wr.heap.size]? = some (.cells (encZ z).toArray 41)) := heap_alloc_new _ _
          clear hos HTK HX
          go_upto_region 15 with (go_at_call 35; refine (hc35 _).mono ?_; rintro x3 wr ⟨rfl, rfl⟩)
          go_upto_region 13 with (first
            | (refine wpList_load_mid rfl 41 _ rfl b (q * 21) rfl (encZ z) _ hx Try.underlying41 rfl Try.size41 ?_)
            | (refine wpList_build1 Try.underlying22 Try.info41 (by decide) (by decide) rfl _ rfl (encZ z) rfl rfl ?_)
            | (at_builtin; refine wpList_append_own _ rfl _ _ 22 rfl w.heap.size 41 i0 _ 21 280 Try.underlying22 hi0 HZ0.out hz1 hz2 rfl (by decide) v os.length (os.flatMap encZ) rfl hMO8.out.own ⟨wr.heap.size, 0, none⟩ 1 1 (encZ z) rfl rfl ?c1 (encZ_one z) ?c2 ?c3 hMO8.out.below.size ?_; rotate_right; intro v9 w9 hown9 hgr9; have hMO9 : Hid (MO w v9 (zSlot d k (zs.take (q + 1))) w9) := ⟨(by rw [hTK2.out, List.length_append, List.flatMap_append]; simpa using hown9), hMO8.out.below.grown hgr9 hMO8.out.below.size (fun k hk => (hMO8.out.own.lt k hk).1)⟩; clear hown9 hgr9))
          case c1 =>
            intro j u hj
            rw [Addr.add_mid, Lib.cell_of_heap hbx.out, Nat.zero_add, ← hj]
            simp
          case c2 => unfold maxLen; omega
          case c3 => omega
          go_wp2
          go_roundw
          case rel => exact ⟨q + 1, hltq, by go_num, hMO9⟩
          case measure => simp [intOf]; omega
        · have hMO9 : Hid (MO w v (zSlot d k (zs.take (q + 1))) wr) := by
            have := HTK.out
            rw [HX.out, if_neg he, List.append_nil] at this
            rw [this]
            exact hMO.out
          have heb : (X == (k : Int)) = false := by simpa using he
          clear HTK HX hMO hx
          go_wp2_with (go_at_call 35; refine (hc35 _).mono ?_; rintro x3 wr ⟨rfl, rfl⟩)
          go_roundw
          case rel => exact ⟨q + 1, hltq, by go_num, hMO9⟩
          case measure => simp [intOf]; omega
      have hall : zSlot d k (zs.take q) = zSlot d k zs := by rw [List.take_of_length_le (by rw [HN.out]; omega)]
      rw [hall] at hMO
      have hB : Hid (Below w.heap.size w wr) := hMO.out.below
      have hown := hMO.out.own
      have hsubl : (zSlot d k zs).length ≤ 4096 := by
        unfold zSlot
        have := List.length_filter_le (fun z => slotOf z.hash (4 * (d + 1)) == (k : Int)) zs
        rw [HN.out] at this
        omega
      obtain ⟨kk1', hT1k⟩ := KC.out k hlt
      obtain ⟨kk2', hT2k⟩ := KC'.out k hlt
      have kk1 := Keep.below (X := Nowhere) hB.out _ _ (fun h => h) kk1'
      have kk2 := Keep.below (X := Nowhere) hB.out _ _ (fun h => h) kk2'
      obtain ⟨ao5, b5, cap5, rfl, a1, a2⟩ := own_form hown
      obtain ⟨l5, hl5⟩ : ∃ l5, (zSlot d k zs).length = l5 := ⟨_, rfl⟩
      have HSUB : Hid (∀ W, Below wr.heap.size wr W → ZRow W b5 0 (zSlot d k zs)) := fun W hb => by
        refine ZRow.later (w := wr) (fun i hi => ?_) hb
        have e : (zSlot d k zs)[i]? = some (zAt (zSlot d k zs) i) := by rw [zAt_eq hi, List.getElem?_eq_getElem hi]
        rw [Nat.zero_add]
        exact own_rows (f := encZ) (k := 21) (fun _ => rfl) (a2.resolve_left (by omega)) i _ e
      have hcall := fun W (hb : Below wr.heap.size wr W) => IH.out k hlt W ao5 (zSlot d k zs).length cap5 b5
        (hT1k.keep (Keep.below (X := Nowhere) (hB.out.trans (hb.mono hB.out.size))) (fun _ h => h.elim)) (hT2k.keep (Keep.below (X := Nowhere) (hB.out.trans (hb.mono hB.out.size))) (fun _ h => h.elim)) a1 rfl hsubl (HSUB.out W hb) (fun z hz => HR.out z (zSlot_mem hz))
      have hpe : Hid (l5 = 0 → (ch' k).ptr = (ch k).ptr) := fun e => by rw [HK.out k hlt (List.length_eq_zero_iff.1 (hl5.trans e))]
      rw [hl5] at hcall hsubl ⊢
      obtain ⟨p1, hp1⟩ : ∃ p, (ch k).ptr = p := ⟨_, rfl⟩
      obtain ⟨p2, hp2⟩ : ∃ p, (ch' k).ptr = p := ⟨_, rfl⟩
      rw [hp1] at kk1 hcall hpe
      rw [hp2] at kk2 hcall hpe
      have e1 : ((4 * d : Nat) : Int) = (s : Int) - 4 := by have := HS.out; omega
      have e2 : ((dep + 1 : Nat) : Int) = (dep : Int) + 1 := by omega
      rw [e1, e2] at hcall
      have hws : IntKind.i64.wrap ((s : Int) - 4) = (s : Int) - 4 := by simp [IntKind.wrap, IntKind.bits, IntKind.signed]; omega
      have hwd : IntKind.i64.wrap ((dep : Int) + 1) = (dep : Int) + 1 := by simp [IntKind.wrap, IntKind.bits, IntKind.signed]; omega
      clear hall hMO hown a1 a2 hT1k hT2k kk1' kk2' hp1 hp2 e1 e2 HSUB
      by_cases h0 : l5 = 0
      · have hpp := hpe.out h0
        subst h0
        rw [hpp] at kk2
        have hneq := neq_ptr p1
        clear hcall hpe hl5 hpp
        have hB2 : Hid (∀ j, Below w.heap.size w (wr.drewN j)) := fun j => ⟨hB.out.os, hB.out.tape, hB.out.output, hB.out.size, hB.out.block⟩
        go_upto_region 17 with fail
        go_quiet (fail)
        go_wp2
        go_roundw
        case rel => exact ⟨k + 1, hlt, by go_num, hB2.out _⟩
        case measure => simp [intOf]; omega
      · have hl0 : ((l5 : Int) == 0) = false := by simpa using h0
        clear hpe hl5
        go_upto_region 19 with fail
        refine wp_region_below hmx (by kernel_rfl) ?_
        refine wpq_val (by go_simp) (v := ?va0) ?hya0 (fun K hK => ?_)
        case hya0 => (intro w hw'; go_simp; try (with_reducible rfl))
        go_simp
        refine hK _ ?_
        clear hK K
        refine wpq_val (by go_simp) (v := ?va1) ?hya1 (fun K hK => ?_)
        case hya1 => (intro w hw'; go_simp; try (with_reducible rfl))
        go_simp
        refine hK _ ?_
        clear hK K
        refine wpq_val (by go_simp) (v := ?va2) ?hya2 (fun K hK => ?_)
        case hya2 => (intro w hw'; go_simp; try (with_reducible rfl))
        go_simp
        refine hK _ ?_
        clear hK K
        refine wpq_val (by go_simp) (v := ?va3) ?hya3 (fun K hK => ?_)
        case hya3 => (intro w hw'; go_simp; try (with_reducible rfl))
        go_simp
        refine hK _ ?_
        clear hK K
        refine wpq_val (by go_simp) (v := ?va4) ?hya4 (fun K hK => ?_)
        case hya4 => (intro w hw'; have k9 := Keep.below (X := Nowhere) hw' _ _ (fun h => h) kk1; go_simp; try (with_reducible rfl))
        go_simp
        refine hK _ ?_
        clear hK K
        refine wpq_val (by go_simp) (v := ?va5) ?hya5 (fun K hK => ?_)
        case hya5 => (intro w hw'; go_simp; try (with_reducible rfl))
        go_simp
        refine hK _ ?_
        clear hK K
        refine wpq_val (by go_simp) (v := ?va6) ?hya6 (fun K hK => ?_)
        case hya6 => (intro w hw'; go_simp; try (with_reducible rfl))
        go_simp
        refine hK _ ?_
        clear hK K
        refine wpq_val (by go_simp) (v := ?va7) ?hya7 (fun K hK => ?_)
        case hya7 => (intro w hw'; go_simp; try (with_reducible rfl))
        go_simp
        refine hK _ ?_
        clear hK K
        refine wpq_val (by go_simp) (v := ?va8) ?hya8 (fun K hK => ?_)
        case hya8 => (intro w hw'; go_simp; try (with_reducible rfl))
        go_simp
        refine hK _ ?_
        clear hK K
        refine wpq_val (by go_simp) (v := ?va9) ?hya9 (fun K hK => ?_)
        case hya9 => (intro w hw'; have k9 := Keep.below (X := Nowhere) hw' _ _ (fun h => h) kk2; go_simp; try (with_reducible rfl))
        go_simp
        refine hK _ ?_
        clear hK K
        refine wpq_val (by go_simp) (v := ?va10) ?hya10 (fun K hK => ?_)
        case hya10 => (intro w hw'; go_simp; try (with_reducible rfl))
        go_simp
        refine hK _ ?_
        clear hK K
        refine wpq_val (by go_simp) (v := ?va11) ?hya11 (fun K hK => ?_)
        case hya11 => (intro w hw'; go_simp; try (with_reducible rfl))
        go_simp
        refine hK _ ?_
        clear hK K
        refine wpq_val (by go_simp) (v := ?va12) ?hya12 (fun K hK => ?_)
        case hya12 => (intro w hw'; go_simp; try (with_reducible rfl))
        go_simp
        refine hK _ ?_
        clear hK K
        refine wpq_val (by go_simp) (v := ?va13) ?hya13 (fun K hK => ?_)
        case hya13 => (intro w hw'; go_simp; try (with_reducible rfl))
        go_simp
        refine hK _ ?_
        clear hK K
        refine wpq_val (by go_simp) (v := ?va14) ?hya14 (fun K hK => ?_)
        case hya14 => (intro w hw'; go_simp; try (with_reducible rfl))
        go_simp
        refine hK _ ?_
        clear hK K
        refine wpq_call (by go_simp) (f := 17) (args := #[.pointer p1, .pointer p2, .slice ao5 l5 cap5, .int .i64 ((s : Int) - 4), .int .i64 ((dep : Int) + 1)]) ?hr15 (fun w' hw' => calls_below hw' (hcall w' hw')) (fun K hK => ?_)
        case hr15 => (intro w _; go_simp; try (with_reducible rfl))
        go_simp
        refine hK _ ?_
        clear hK K
        refine wpq_val (by go_simp) (v := ?va16) ?hya16 (fun K hK => ?_)
        case hya16 => (intro w hw'; go_simp; try (with_reducible rfl))
        go_simp
        refine hK _ ?_
        clear hK K
        refine wpq_nil ?_
        intro w2 hb2
        have hB2 : Hid (Below w.heap.size w w2) := hB.out.trans (hb2.mono hB.out.size)
        clear hcall kk1 kk2 hB hb2
        go_wp2
        go_roundw
        case rel => exact ⟨k + 1, hlt, by go_num, hB2⟩
        case measure => simp [intOf]; omega

theorem shared_any : ∀ (d : Nat) (P : Int) (t1 t2 : Tr) (dep : Nat) (zs : List Z), ApOK d P t1 (zs.map ofZ) → ApR d t1 (zs.map ofZ) t2 → dep + d ≤ 16 → SharedP t1 t2 d dep zs := by
  intro d
  induction d with
  | zero =>
    intro P t1 t2 dep zs _ _ _ w ao n cap b hT1 hT2 _ _ _ _ _
    cases t1 with
    | nil => exact sh_nil1 t2.ptr _ _ dep w
    | leaf g rs =>
      cases t2 with
      | nil => exact sh_nil2 g _ _ dep w
      | leaf g2 rs2 => exact sh_low g g2 _ _ dep w (by omega)
      | inner g2 ch2 c2 => exact sh_low g g2 _ _ dep w (by omega)
    | inner g ch c =>
      cases t2 with
      | nil => exact sh_nil2 g _ _ dep w
      | leaf g2 rs2 => exact sh_low g g2 _ _ dep w (by omega)
      | inner g2 ch2 c2 => exact sh_low g g2 _ _ dep w (by omega)
  | succ d ih =>
    intro P t1 t2 dep zs hA hap hdep
    cases t1 with
    | nil => exact fun w ao n cap b _ _ _ _ _ _ _ => sh_nil1 t2.ptr _ _ dep w
    | leaf g rs =>
      cases t2 with
      | nil => exact fun w ao n cap b _ _ _ _ _ _ _ => sh_nil2 g _ _ dep w
      | leaf g2 rs2 => exact fun w ao n cap b hT1 hT2 _ _ _ _ _ => sh_leaf1 g g2 _ _ dep none w (by omega) (by omega) hT1.ch hT2.ch
      | inner g2 ch2 c2 =>
        intro w ao n cap b hT1 hT2 _ _ _ _ _
        obtain ⟨_, h2, _, k0, _⟩ := hT2
        exact sh_leaf1 g g2 _ _ dep _ w (by omega) (by omega) hT1.ch k0
    | inner g ch c =>
      cases t2 with
      | nil => exact fun w ao n cap b _ _ _ _ _ _ _ => sh_nil2 g _ _ dep w
      | leaf g2 rs2 =>
        intro w ao n cap b hT1 hT2 _ _ _ _ _
        obtain ⟨_, h1, _, k0, _⟩ := hT1
        exact sh_leaf2 g g2 h1 _ _ dep w (by omega) (by omega) k0 hT2.ch
      | inner g2 ch2 c2 =>
        have hk := ap_inner hA hap
        refine sh_inner g g2 c c2 d dep ch ch2 zs (by omega) (by omega) (fun i hi he => ?_) (fun i hi => ?_)
        · have := hk i hi
          rw [← zSlot_map, he] at this
          exact ap_nil_eq this
        · have h1 := hA.kid hi
          have h2 := hk i hi
          rw [← zSlot_map] at h1 h2
          exact ih _ (ch i) (ch2 i) (dep + 1) _ h1 h2 (by omega)
end Go.Proofs.Qxb6603644a
