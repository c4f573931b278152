/-
  THE WALKS of bySlot (43) and build (38).
-/
import Derived.Test.Qxb6603644aRuns
import Derived.Test.Qxb6603644aLeaf
import Derived.TacticsInMore
import Derived.OwnWalkIn
import Derived.LoopNIn
namespace Go.Proofs.Qxb6603644a
open Go.RowKit Go.Shelf
attribute [local go_sem] Oper.semAt_some

theorem bld_nil (d : Nat) : BldR d [] .nil := by cases d <;> exact .inl ⟨rfl, rfl⟩

theorem bySlot_any (v : Value) (s : Nat) (w : World) (hv : ∃ a n c, v = .slice a n c) : Calls Try.prog 43 #[v, .int .i64 s] w fun x w' => x = .returned (.func (.func 52) #[] #[.pointer (some ⟨w.heap.size, 0, none⟩), .pointer (some ⟨w.heap.size + 1, 0, none⟩)]) ∧
    w' = (w.alloc (.cells #[v] 28)).alloc (.cells #[.int .i64 s] 3) := by
  obtain ⟨a, n, c, rfl⟩ := hv
  go_enter Try.func43, Try.ntmps43
  go_wp2
  go_ret
  exact ⟨rfl, rfl⟩

theorem keep_new (w : World) (o : Obj) : Keep Nowhere w (w.alloc o) := (Keep.refl _ _).alloc o

set_option maxRecDepth 10000 in
set_option maxHeartbeats 1000000 in
theorem build_leaf (b off n cap s : Nat) (cs : List C) (rs : List R) (w : World) (hn : cs.length = n) (h0 : 0 < n) (hnb : n ≤ 16384) (hrs : cs.map (fun c => c.k.r) = rs) (hrow : ChRow w b off cs) (hrt : Rts w b cs) (hput : ∀ c ∈ cs, c.k.put = true) (h32 : n ≤ 32 ∨ s = 0) (hs : s ≤ 64) :
    Calls Try.prog 38 #[.slice (some ⟨b, off, none⟩) n cap, .int .i64 (s : Nat)] w fun x w' => ∃ g, x = .returned (.pointer (some ⟨g, 0, none⟩)) ∧ LeafAt w' (· < w.heap.size) g rs ∧ Below w.heap.size w w' := by
  have H : Hid (∀ o, ChRow (w.alloc o) b off cs ∧ Rts (w.alloc o) b cs) := fun o => ⟨hrow.keep (keep_new w o) (fun _ h => h.elim), hrt.keep (keep_new w o) (fun _ h => h.elim)⟩
  have HN : Hid (cs.length = n) := hn
  have HRS : Hid (cs.map (fun c => c.k.r) = rs) := hrs
  have HPUT : Hid (∀ c ∈ cs, c.k.put = true) := hput
  clear hrow hrt hn hrs hput
  by_cases hle : n ≤ 32
  · clear h32
    go_enter Try.func38, Try.ntmps38
    go_wp2_with (go_at_call 44; refine (newLeaf_any b off n cap cs rs _ HN.out h0 hnb HRS.out (H.out _).1 (H.out _).2 HPUT.out).mono ?_; rintro x1 w1 ⟨g, rfl, hb1, hL1⟩)
    go_ret
    exact ⟨g, rfl, hL1.mono (fun k hk => by simp; omega), ((Below.refl w.heap.size w).alloc (Nat.le_refl _) _).trans (hb1.mono (by simp))⟩
  · obtain rfl : s = 0 := h32.resolve_left hle
    clear h32
    go_enter Try.func38, Try.ntmps38
    go_wp2_with (go_at_call 44; refine (newLeaf_any b off n cap cs rs _ HN.out h0 hnb HRS.out (H.out _).1 (H.out _).2 HPUT.out).mono ?_; rintro x1 w1 ⟨g, rfl, hb1, hL1⟩)
    go_ret
    exact ⟨g, rfl, hL1.mono (fun k hk => by simp; omega), ((Below.refl w.heap.size w).alloc (Nat.le_refl _) _).trans (hb1.mono (by simp))⟩

/-- what lies where while build fills the children: p changes are done; b0 the heap's size at its beginning -/
structure BU (w : World) (d b0 : Nat) (cs : List C) (p : Nat) (W : World) : Prop where
  kids : ∃ T : Nat → Tr, ∀ i, i < 16 → W.cell? ⟨b0 + 1, i, none⟩ = some (.pointer (T i).ptr) ∧ BldR d ((upTo cs (4 * (d + 1)) p i).map fun c => c.k.r) (T i) ∧ IsT W (· < b0 + 4) (T i)
  fz : ∀ i, W.frozen? ⟨b0 + 1, i, none⟩ = false
  sh : W.cell? ⟨b0, 0, none⟩ = some (.int .i64 (4 * (d + 1) : Nat))
  below : Below b0 w W
  size : b0 + 4 ≤ W.heap.size
theorem BU.keep {w : World} {d b0 p : Nat} {cs : List C} {W W' : World} {X : Addr → Prop} (h : BU w d b0 cs p W) (hk : Keep X W W') (hX : ∀ x, X x → x.block = b0 + 2) (hf : W'.heap[b0 + 1]? = W.heap[b0 + 1]?) (hb : Below b0 W W') : BU w d b0 cs p W' := by
  obtain ⟨T, hT⟩ := h.kids
  have hn : ∀ (k o : Nat), k ≠ b0 + 2 → ¬ X ⟨k, o, none⟩ := fun k o hkb hh => hkb (hX _ hh)
  exact ⟨⟨T, fun i hi => ⟨hk _ _ (hn _ _ (by omega)) (hT i hi).1, (hT i hi).2.1, (hT i hi).2.2.keep hk (fun x hx => by rw [hX x hx]; show b0 + 2 < b0 + 4; omega)⟩⟩,
    fun i => (World.frozen?_of_block (w := W) hf).trans (h.fz i), hk _ _ (hn _ _ (by omega)) h.sh, h.below.trans hb, Nat.le_trans h.size hb.size⟩
theorem BU.alloc {w : World} {d b0 p : Nat} {cs : List C} {W : World} (h : BU w d b0 cs p W) (o : Obj) : BU w d b0 cs p (W.alloc o) :=
  h.keep (keep_new W o) (fun _ h => h.elim) (Below.heap_alloc _ _ _ (by have := h.size; omega)) ((Below.refl b0 W).alloc (by have := h.size; omega) _)
theorem BU.put {w : World} {d b0 p : Nat} {cs : List C} {W : World} (h : BU w d b0 cs p W) {l : Nat} {o o' : Obj} (hl : b0 + 4 ≤ l) (hlo : W.heap[l]? = some o) (ho : o.isCells = false) : BU w d b0 cs p (W.putObj l o') :=
  h.keep ((Keep.refl Nowhere W).putObj hlo ho) (fun _ h => h.elim) (World.putObj_heap_other (by omega)) ⟨rfl, rfl, rfl, by simp [World.putObj], fun k hk => World.putObj_heap_other (by omega)⟩
theorem BU.set {w : World} {d b0 p : Nat} {cs : List C} {W : World} (h : BU w d b0 cs p W) (v : Value) : BU w d b0 cs p (W.setCell ⟨b0 + 2, 0, none⟩ v) :=
  h.keep ((Keep.refl (fun x => x.block = b0 + 2) W).setCell _ _ (.inl rfl)) (fun _ h => h) (Below.heap_setCell _ _ _ _ (by simp)) ((Below.refl b0 W).setCell (p := ⟨b0 + 2, 0, none⟩) (by simp) _)
theorem BU.drewN {w : World} {d b0 p : Nat} {cs : List C} {W : World} (h : BU w d b0 cs p W) (q : Nat) : BU w d b0 cs p (W.drewN q) :=
  h.keep (fun _ _ _ hv => hv) (fun _ (hx : False) => hx.elim) rfl ⟨rfl, rfl, rfl, Nat.le_refl _, fun _ _ => rfl⟩

theorem At.same {c c2 b off n cap s r p : Nat} {cs : List C} {W W' : World} (h : At c c2 b off n cap s cs r p W) (hk : Keep Nowhere W W') (hc : W'.heap[c]? = W.heap[c]?) : At c c2 b off n cap s cs r p W' := by
  obtain ⟨ad, h1, h2⟩ := h.cur
  exact ⟨fun i h3 h4 => hk _ _ (fun h => h) (h.row i h3 h4), hk _ _ (fun h => h) h.sh, (World.frozen?_of_block (w := W) hc).trans h.fz, ad, hk _ _ (fun h => h) h1, h2⟩
theorem At.alloc {c c2 b off n cap s r p : Nat} {cs : List C} {W : World} (h : At c c2 b off n cap s cs r p W) (o : Obj) : At c c2 b off n cap s cs r p (W.alloc o) := by
  obtain ⟨ad, h1, h2⟩ := h.cur
  exact h.same (keep_new W o) (Below.heap_alloc _ _ _ (cell_lt h1))
theorem At.put {c c2 b off n cap s r p : Nat} {cs : List C} {W : World} (h : At c c2 b off n cap s cs r p W) {l : Nat} {o o' : Obj} (hl : c < l) (hlo : W.heap[l]? = some o) (ho : o.isCells = false) : At c c2 b off n cap s cs r p (W.putObj l o') :=
  h.same ((Keep.refl Nowhere W).putObj hlo ho) (World.putObj_heap_other (by omega))

theorem four (w : World) (o1 o2 o3 o4 : Obj) : ((((w.alloc o1).alloc o2).alloc o3).alloc o4).heap[w.heap.size]? = some o1 ∧ ((((w.alloc o1).alloc o2).alloc o3).alloc o4).heap[w.heap.size + 1]? = some o2 ∧ ((((w.alloc o1).alloc o2).alloc o3).alloc o4).heap[w.heap.size + 2]? = some o3 ∧ ((((w.alloc o1).alloc o2).alloc o3).alloc o4).heap[w.heap.size + 3]? = some o4 ∧ Below w.heap.size w ((((w.alloc o1).alloc o2).alloc o3).alloc o4) := by
  refine ⟨?_, ?_, ?_, ?_, ((((Below.refl w.heap.size w).alloc (Nat.le_refl _) _).alloc (by simp) _).alloc (by simp; omega) _).alloc (by simp; omega) _⟩
  · rw [Below.heap_alloc _ _ _ (by simp; omega), Below.heap_alloc _ _ _ (by simp; omega), Below.heap_alloc _ _ _ (by simp)]
    exact heap_alloc_new _ _
  · rw [Below.heap_alloc _ _ _ (by simp), Below.heap_alloc _ _ _ (by simp)]
    have := heap_alloc_new (w.alloc o1) o2
    rwa [World.size_alloc] at this
  · rw [Below.heap_alloc _ _ _ (by simp)]
    have := heap_alloc_new ((w.alloc o1).alloc o2) o3
    rwa [World.size_alloc, World.size_alloc] at this
  · have := heap_alloc_new (((w.alloc o1).alloc o2).alloc o3) o4
    rwa [World.size_alloc, World.size_alloc, World.size_alloc] at this
theorem nil16 (i : Nat) (hi : i < 16) : (#[.pointer none, .pointer none, .pointer none, .pointer none, .pointer none, .pointer none, .pointer none, .pointer none, .pointer none, .pointer none, .pointer none, .pointer none, .pointer none, .pointer none, .pointer none, .pointer none] : Array Value)[i]? = some (.pointer none) := by
  rw [show (#[.pointer none, .pointer none, .pointer none, .pointer none, .pointer none, .pointer none, .pointer none, .pointer none, .pointer none, .pointer none, .pointer none, .pointer none, .pointer none, .pointer none, .pointer none, .pointer none] : Array Value) = Array.replicate 16 (.pointer none) from rfl]
  simp [hi]
theorem keepsOthers_of {W W' : World} (h : Below W.heap.size W W') : KeepsOthers W W' := ⟨h.size, fun k _ hk _ => (h.block k (heap_lt hk)).trans hk⟩

/-- a round of build's loop: the run from p on is built, its child stored -/
theorem BU.round {w : World} {d p k j : Nat} {cs : List C} {W w5 : World} {t : Tr} (hU : BU w d w.heap.size cs p W) (hk : p + k ≤ cs.length) (hj : j < 16) (hall : ∀ q, p ≤ q → q < p + k → slotOf (cAt cs q).hash (4 * (d + 1)) = (j : Int)) (hno : ∀ q, q < p → slotOf (cAt cs q).hash (4 * (d + 1)) ≠ (j : Int))
    (hbl : BldR d ((seg cs p k).map fun c => c.k.r) t) (hT : IsT w5 (· < W.heap.size) t) (hB : Below W.heap.size W w5) : BU w d w.heap.size cs (p + k) (w5.setCell ⟨w.heap.size + 1, j, none⟩ (.pointer t.ptr)) := by
  obtain ⟨T, hTT⟩ := hU.kids
  have hsz := hU.size
  have hK : Keep Nowhere W w5 := Keep.below hB
  have hK2 : Keep (fun x => x.block = w.heap.size + 1) w5 (w5.setCell ⟨w.heap.size + 1, j, none⟩ (.pointer t.ptr)) := (Keep.refl _ _).setCell _ _ (.inl rfl)
  refine ⟨⟨fun q => if q = j then t else T q, fun q hq => ?_⟩, fun i => ?_, ?_, ?_, ?_⟩
  · have h1 := hK _ _ (fun h => h) (hTT q hq).1
    by_cases e : q = j
    · subst e
      simp only [if_true]
      refine ⟨World.cell?_setCell_same' _ _ _ (by rw [h1]; rfl), ?_, (hT.mono (fun k (hk : k < w.heap.size + 4) => by show k < _; omega)).keep hK2 (fun x hx => by rw [hx]; show w.heap.size + 1 < w.heap.size + 4; omega)⟩
      rw [upTo_step cs _ p k q q hk hall hno, if_pos rfl]
      exact hbl
    · simp only [if_neg e]
      refine ⟨?_, ?_, ((hTT q hq).2.2.keep hK (fun _ h => h.elim)).keep hK2 (fun x hx => by rw [hx]; show w.heap.size + 1 < w.heap.size + 4; omega)⟩
      · rw [World.cell?_setCell_other _ _ _ _ (fun h => e (by simpa using h.symm))]
        exact h1
      · rw [upTo_step cs _ p k j q hk hall hno, if_neg (by omega)]
        exact (hTT q hq).2.1
  · rw [World.frozen?_setCell]
    exact (World.frozen?_of_block (w := W) (hB.block (w.heap.size + 1) (by omega))).trans (hU.fz i)
  · exact hK2 _ _ (by simp) (hK _ _ (fun h => h) hU.sh)
  · exact (hU.below.trans (hB.mono (by omega))).setCell (p := ⟨w.heap.size + 1, j, none⟩) (by simp) _
  · rw [World.size_setCell]
    exact Nat.le_trans hsz hB.size

set_option maxRecDepth 10000 in
set_option maxHeartbeats 1000000 in
theorem build_inner (d : Nat) (b off n cap : Nat) (cs : List C) (rs : List R) (P : Int) (w : World) (hd : d + 1 ≤ 16) (hn : cs.length = n) (hnb : n ≤ 16384) (h32 : 32 < n) (hcap : n ≤ cap) (hcap2 : cap ≤ 9223372036854775807) (hrs : cs.map (fun c => c.k.r) = rs) (hrow : ChRow w b off cs) (hrt : Rts w b cs) (hput : ∀ c ∈ cs, c.k.put = true)
    (hs : rs.Pairwise klt) (hp : ∀ r ∈ rs, r.hash / 2 ^ (4 * (d + 1)) = P) (hh : ∀ r ∈ rs, 0 ≤ r.hash ∧ r.hash < 18446744073709551616)
    (ih : ∀ (ao : Option Addr) (b off n cap : Nat) (cs : List C) (rs : List R) (P : Int) (w : World), d ≤ 16 → cs.length = n → n ≤ 16384 → n ≤ cap → cap ≤ 9223372036854775807 → cs.map (fun c => c.k.r) = rs → (n = 0 ∨ ao = some ⟨b, off, none⟩) → ChRow w b off cs → Rts w b cs → (∀ c ∈ cs, c.k.put = true) →
      rs.Pairwise klt → (∀ r ∈ rs, r.hash / 2 ^ (4 * d) = P) → (∀ r ∈ rs, 0 ≤ r.hash ∧ r.hash < 18446744073709551616) →
      Calls Try.prog 38 #[.slice ao n cap, .int .i64 (4 * d : Nat)] w fun x w' => ∃ t, x = .returned (.pointer t.ptr) ∧ BldR d rs t ∧ IsT w' (· < w.heap.size) t ∧ Below w.heap.size w w') :
    Calls Try.prog 38 #[.slice (some ⟨b, off, none⟩) n cap, .int .i64 (4 * (d + 1) : Nat)] w fun x w' => ∃ t, x = .returned (.pointer t.ptr) ∧ BldR (d + 1) rs t ∧ IsT w' (· < w.heap.size) t ∧ Below w.heap.size w w' := by
  have HROW : Hid (ChRow w b off cs) := hrow
  have HRT : Hid (Rts w b cs) := hrt
  have HN : Hid (cs.length = n) := hn
  have HRS : Hid (cs.map (fun c => c.k.r) = rs) := hrs
  have HPUT : Hid (∀ c ∈ cs, c.k.put = true) := hput
  have HH : Hid (∀ r ∈ rs, 0 ≤ r.hash ∧ r.hash < 18446744073709551616) := hh
  have HP : Hid (∀ r ∈ rs, r.hash / 2 ^ (4 * (d + 1)) = P) := hp
  have HS : Hid (rs.Pairwise klt) := hs
  have IH : Hid _ := ih
  clear hrow hrt hn hrs hput hh hp hs ih
  obtain ⟨s, hsd⟩ : ∃ s, 4 * (d + 1) = s := ⟨_, rfl⟩
  rw [hsd]
  have HSD : Hid (4 * (d + 1) = s) := hsd
  have hs4 : 4 ≤ s := by omega
  have hs64 : s ≤ 64 := by omega
  clear hsd
  refine (callsIn_wide (n := 5)).1 (callsIn_of_wp_marks Try.func38 rfl trivial ((wpIn_wide (n := 5)).2 ?_))
  simp only [Try.ntmps38, List.size_toArray, List.length_cons, List.length_nil, Nat.reduceAdd, Nat.reduceSub, Array.replicate_succ, Array.replicate_zero, List.push_toArray, List.append_toArray, List.nil_append, List.cons_append]
  have hbl : b < w.heap.size := cell_lt (HROW.out 0 (by rw [HN.out]; omega)).1
  have HHC : Hid (∀ i, i < n → 0 ≤ (cAt cs i).hash ∧ (cAt cs i).hash < 18446744073709551616) := fun i hi => HH.out _ (by rw [← HRS.out]; exact List.mem_map_of_mem (cAt_mem (by rw [HN.out]; exact hi)))
  have HM : Hid (Mono cs s) := by
    have h1 : (cs.map fun c => c.k).Pairwise fun a b => a.r.hash ≤ b.r.hash := by
      have h2 := HS.out
      rw [← HRS.out, List.pairwise_map] at h2
      rw [List.pairwise_map]
      refine h2.imp fun {a b} h => ?_
      rcases h with h | ⟨h, _⟩ <;> omega
    have h3 : ∀ c ∈ cs, c.k.r.hash / 2 ^ (4 * (d + 1)) = P := fun c hc => HP.out _ (by rw [← HRS.out]; exact List.mem_map_of_mem hc)
    have h4 := mono_of h1 h3
    rw [HSD.out] at h4
    exact h4
  have hg1 : decide ((n : Int) ≤ 32) = false := by simp; omega
  have hg2 : decide ((s : Int) = 0) = false := by simp; omega
  go_wp2_with (go_at_call 43; refine (bySlot_any _ s _ ⟨_, _, _, rfl⟩).mono ?_; rintro x1 w1 ⟨rfl, hw1⟩)
  clear hw1
  obtain ⟨W0, hW0⟩ : ∃ W0, W0 = (((w.alloc (.cells #[.int .i64 s] 3)).alloc (.cells #[.pointer none, .pointer none, .pointer none, .pointer none, .pointer none, .pointer none, .pointer none, .pointer none, .pointer none, .pointer none, .pointer none, .pointer none, .pointer none, .pointer none, .pointer none, .pointer none] 87)).alloc (.cells #[.slice (some ⟨b, off, none⟩) n cap] 28)).alloc (.cells #[.int .i64 s] 3) := ⟨_, rfl⟩
  rw [← hW0]
  have hsz0 : W0.heap.size = w.heap.size + 4 := by rw [hW0]; simp
  have hBU : BU w d w.heap.size cs (pos []) W0 := by
    rw [hW0]
    obtain ⟨f0, f1, f2, f3, f4⟩ := four w (.cells #[.int .i64 s] 3) (.cells #[.pointer none, .pointer none, .pointer none, .pointer none, .pointer none, .pointer none, .pointer none, .pointer none, .pointer none, .pointer none, .pointer none, .pointer none, .pointer none, .pointer none, .pointer none, .pointer none] 87) (.cells #[.slice (some ⟨b, off, none⟩) n cap] 28) (.cells #[.int .i64 s] 3)
    refine ⟨⟨fun _ => .nil, fun i hi => ⟨?_, ?_, trivial⟩⟩, fun i => Lib.frozen_of_heap f1 i, ?_, f4, by simp⟩
    · rw [Lib.cell_of_heap f1]
      exact nil16 i hi
    · show BldR d (([] : List C).map _) _
      exact bld_nil d
    · rw [Lib.cell_of_heap f0, HSD.out]
      rfl
  have hAt : At (w.heap.size + 2) (w.heap.size + 3) b off n cap s cs (pos []) (pos []) W0 := by
    rw [hW0]
    obtain ⟨f0, f1, f2, f3, f4⟩ := four w (.cells #[.int .i64 s] 3) (.cells #[.pointer none, .pointer none, .pointer none, .pointer none, .pointer none, .pointer none, .pointer none, .pointer none, .pointer none, .pointer none, .pointer none, .pointer none, .pointer none, .pointer none, .pointer none, .pointer none] 87) (.cells #[.slice (some ⟨b, off, none⟩) n cap] 28) (.cells #[.int .i64 s] 3)
    refine ⟨fun i _ hi => Keep.below (X := Nowhere) f4 _ _ (fun h => h) (HROW.out i hi).1, ?_, Lib.frozen_of_heap f2 0, ⟨b, off, none⟩, ?_, fun _ => by simp [pos]⟩
    · rw [Lib.cell_of_heap f3]
      rfl
    · rw [Lib.cell_of_heap f2]
      rfl
  have HW0 : Hid _ := hW0
  clear hW0
  refine (wpIn_wide (n := 5)).1 (range_own (F := Fence.wide) rfl (by omega) (gf := 52) (lb := #[.pointer (some ⟨w.heap.size + 2, 0, none⟩), .pointer (some ⟨w.heap.size + 3, 0, none⟩)]) rfl trivial (enters_of Try.func52 (by kernel_rfl) rfl)
    (encs := encR b off cap) (fun _ => rfl) (c := w.heap.size + 2) (by omega) (xs := runsF cs s n 0)
    (Inv := fun pre W => BU w d w.heap.size cs (pos pre) W ∧ At (w.heap.size + 2) (w.heap.size + 3) b off n cap s cs (pos pre) (pos pre) W)
    (Inv2 := fun pre W => BU w d w.heap.size cs (pos pre) W ∧ ∃ q x, pre = q ++ [x] ∧ At (w.heap.size + 2) (w.heap.size + 3) b off n cap s cs (pos pre) (pos q) W)
    ?hI ?hI2 (bySlot_iter (5 - 1) _ _ b off n cap s cs HN.out (by omega) hcap hcap2 hs4 hs64 HHC.out (by omega) (by omega) (fun pre W => BU w d w.heap.size cs (pos pre) W) (fun pre W v h => h.set v) (fun pre W q h => h.drewN q)) ⟨hBU, hAt⟩
    (fun x => { tmps := #[.slice (some ⟨b, off, none⟩) n cap, .int .i64 s, undef, .pointer (some ⟨w.heap.size, 0, none⟩), .pointer none, .pointer (some ⟨w.heap.size + 1, 0, none⟩), .int .i64 x.1, .slice (some ⟨b, off + x.2.1 * 4, none⟩) x.2.2 (cap - x.2.1), .slice (some ⟨b, off, none⟩) n cap, .int .i64 n, .bool false, .slice (some ⟨b, off, none⟩) n cap, .int .i64 n, .bool false, .bool false, .int .i64 s, .bool false, .bool false, undef, undef, .slice (some ⟨b, off, none⟩) n cap, .int .i64 s, .func (.func 52) #[] #[.pointer (some ⟨w.heap.size + 1 + 1, 0, none⟩), .pointer (some ⟨w.heap.size + 1 + 1 + 1, 0, none⟩)], .int .i64 x.1, .slice (some ⟨b, off + x.2.1 * 4, none⟩) x.2.2 (cap - x.2.1), undef, undef, undef, undef, undef, undef, undef, undef, undef, undef], defers := [] }) ?assign ?body ?done)
  case hI => exact ⟨fun pre W l o o' h hl hlo ho => ⟨h.1.put (by omega) hlo ho, h.2.put (by omega) hlo ho⟩, fun pre W o h => ⟨h.1.alloc o, h.2.alloc o⟩⟩
  case hI2 => exact ⟨fun pre W l o o' h hl hlo ho => ⟨h.1.put (by omega) hlo ho, by obtain ⟨_, q, x, h1, h2⟩ := h; exact ⟨q, x, h1, h2.put (by omega) hlo ho⟩⟩, fun pre W o h => ⟨h.1.alloc o, by obtain ⟨_, q, x, h1, h2⟩ := h; exact ⟨q, x, h1, h2.alloc o⟩⟩⟩
  case assign =>
    intro l x W K hK
    simp only [encR]
    gi_wp2
    exact hK
  case body =>
    rintro l pre ⟨i, p, k⟩ rest W hxs ⟨hU, hA⟩
    obtain ⟨hp1, hk0, hk, hall, hbef⟩ := runs_at cs s n 0 pre (i, p, k) rest (Nat.zero_le _) (.inl rfl) hxs
    simp only [Nat.zero_add] at hp1 hk0 hk hall hbef
    subst hp1
    obtain ⟨p, hpp⟩ : ∃ p, pos pre = p := ⟨_, rfl⟩
    rw [hpp] at hk hall hbef hU hA ⊢
    have hir := slot_range (cAt cs p).hash s
    rw [hall p (Nat.le_refl _) (by omega)] at hir
    obtain ⟨j, rfl, hj16⟩ : ∃ j : Nat, i = (j : Int) ∧ j < 16 := ⟨i.toNat, by omega, by omega⟩
    have hno := mono_none HM.out (by omega) (hall p (Nat.le_refl _) (by omega)) hbef
    have hsz := hU.size
    have hkeep : Keep Nowhere w W := Keep.below hU.below
    have e4 : ((s : Int) - 4) = ((4 * d : Nat) : Int) := by have := HSD.out; omega
    have hcall : Calls Try.prog 38 #[.slice (some ⟨b, off + p * 4, none⟩) k (cap - p), .int .i64 ((s : Int) - 4)] W fun x w' => ∃ t, x = .returned (.pointer t.ptr) ∧ BldR d ((seg cs p k).map fun c => c.k.r) t ∧ IsT w' (· < W.heap.size) t ∧ Below W.heap.size W w' := by
      rw [e4]
      refine IH.out _ b (off + p * 4) k (cap - p) (seg cs p k) _ (P * 16 + j) W (by omega) (seg_length _ _ _ hk) (by have := HN.out; omega) (by have := HN.out; omega) (by omega) rfl (.inr rfl) ((HROW.out.keep hkeep (fun _ h => h.elim)).seg hk) (fun c hc => (HRT.out.keep hkeep (fun _ h => h.elim)) c ((seg_sub _ _ _).mem hc)) (fun c hc => HPUT.out c ((seg_sub _ _ _).mem hc)) ?_ ?_ ?_
      · have h2 := HS.out
        rw [← HRS.out] at h2
        exact h2.sublist ((seg_sub cs p k).map _)
      · intro r hr
        obtain ⟨c, hc, rfl⟩ := List.mem_map.1 hr
        have h2 := HP.out c.k.r (by rw [← HRS.out]; exact List.mem_map_of_mem ((seg_sub _ _ _).mem hc))
        obtain ⟨q, hq1, hq2, rfl⟩ := mem_seg hk hc
        have h3 := cut16 (cAt cs q).k.r.hash d
        have h4 : slotOf (cAt cs q).k.r.hash s = (j : Int) := hall q hq1 hq2
        rw [h2, HSD.out, h4] at h3
        exact h3
      · intro r hr
        obtain ⟨c, hc, rfl⟩ := List.mem_map.1 hr
        exact HH.out c.k.r (by rw [← HRS.out]; exact List.mem_map_of_mem ((seg_sub _ _ _).mem hc))
    clear e4
    have hsh := hU.sh
    rw [HSD.out] at hsh
    obtain ⟨T0, hT0⟩ := hU.kids
    have hcj := (hT0 j hj16).1
    have hfj := hU.fz j
    clear hT0
    have HU : Hid (BU w d w.heap.size cs p W) := hU
    have HA : Hid _ := hA
    have HALL : Hid (∀ q, p ≤ q → q < p + k → slotOf (cAt cs q).hash s = (j : Int)) := hall
    have HNO : Hid _ := hno
    have HPP : Hid (pos pre = p) := hpp
    clear hU hA hall hno hbef hpp hxs hir hkeep
    gi_wp2
    refine ⟨trivial, (CallsIn.inRound l (callsIn_wide.2 hcall)).mono ?_⟩
    rintro x5 w5 ⟨t, rfl, hbl5, hT5, hB5⟩
    have hcj5 := Keep.below (X := Nowhere) hB5 _ _ (fun h => h) hcj
    have hfj5 : w5.frozen? ⟨w.heap.size + 1, j, none⟩ = false := (World.frozen?_of_block (w := W) (hB5.block (w.heap.size + 1) (by omega))).trans hfj
    clear hcall hcj hfj hsh
    have hU5 : Hid (BU w d w.heap.size cs (p + k) (w5.setCell ⟨w.heap.size + 1, j, none⟩ (.pointer t.ptr))) := HU.out.round hk hj16 (by rw [HSD.out]; exact HALL.out) (by rw [HSD.out]; exact HNO.out) hbl5 hT5 hB5
    gi_wp2
    have hps : pos (pre ++ [((j : Int), p, k)]) = p + k := by rw [pos_snoc, HPP.out]
    refine ⟨(keepsOthers_of hB5).trans (KeepsOthers.setCell _ _ _), ?_, ?_⟩
    · rw [hps]
      exact hU5.out
    · rw [HPP.out, hps]
      obtain ⟨ad, h1, h2⟩ := HA.out.cur
      have hK : Keep Nowhere W w5 := Keep.below hB5
      have hK2 : Keep (fun x => x.block = w.heap.size + 1) w5 (w5.setCell ⟨w.heap.size + 1, j, none⟩ (.pointer t.ptr)) := (Keep.refl _ _).setCell _ _ (.inl rfl)
      refine ⟨fun q hq1 hq2 => hK2 _ _ (by simp; omega) (hK _ _ (fun h => h) (HA.out.row q (by omega) hq2)), hK2 _ _ (by simp) (hK _ _ (fun h => h) HA.out.sh), ?_, ad, hK2 _ _ (by simp) (hK _ _ (fun h => h) h1), h2⟩
      rw [World.frozen?_setCell]
      exact (World.frozen?_of_block (w := W) (hB5.block (w.heap.size + 2) (by omega))).trans HA.out.fz
  case done =>
    rintro D W hD ⟨hU, hA⟩ hK
    have hpn : pos (runsF cs s n 0) = n := by
      have := runs_pos cs s n 0 (Nat.zero_le _) (by rw [HN.out]; omega)
      rw [Nat.zero_add, HN.out] at this
      exact this
    rw [hpn] at hU
    clear hA hBU hAt hpn
    have HU : Hid (BU w d w.heap.size cs n W) := hU
    have hszW := hU.size
    clear hU
    go_wp2
    refine ⟨by simp, .inl ⟨_, _, rfl, run_takeDeferred ((KeepsOthers.alloc _ _).same D _ hK rfl), ?_⟩⟩
    obtain ⟨T, hT⟩ := HU.out.kids
    have hrl : rs.length = n := by rw [← HRS.out, List.length_map, HN.out]
    have hKK : Keep Nowhere W ((W.alloc (.cells #[.pointer (some ⟨w.heap.size + 1, 0, none⟩), .int .i64 n, .slice none 0 0, .string ⟨#[]⟩] 82)).putObj D (.deferred none)) :=
      (keep_new W _).putObj ((KeepsOthers.alloc _ _).same D _ hK rfl) rfl
    have hDl : D < W.heap.size := heap_lt hK
    have hnew : ((W.alloc (.cells #[.pointer (some ⟨w.heap.size + 1, 0, none⟩), .int .i64 n, .slice none 0 0, .string ⟨#[]⟩] 82)).putObj D (.deferred none)).heap[W.heap.size]? = some (.cells #[.pointer (some ⟨w.heap.size + 1, 0, none⟩), .int .i64 n, .slice none 0 0, .string ⟨#[]⟩] 82) := by
      rw [World.putObj_heap_other (by omega)]
      exact heap_alloc_new _ _
    refine ⟨_, results_tmp rfl _ _ _, .inner W.heap.size T n, rfl, .inr (.inr ⟨by omega, W.heap.size, T, by rw [hrl], fun i hi => ?_⟩), ⟨fun hg => absurd (show W.heap.size < w.heap.size from hg) (by omega), w.heap.size + 1, fun hg => absurd (show w.heap.size + 1 < w.heap.size from hg) (by omega), ?_, ?_, fun i hi => ⟨hKK _ _ (fun h => h) (hT i hi).1, ?_⟩⟩, ?_⟩
    · have h1 := (hT i hi).2.1
      rw [← HN.out, upTo_all] at h1
      have h2 : inSlot d i rs = (cs.filter fun c => slotOf c.hash (4 * (d + 1)) == (i : Int)).map fun c => c.k.r := by
        rw [← HRS.out, inSlot, List.filter_map]
        rfl
      rw [h2]
      exact h1
    · rw [Lib.cell_of_heap hnew]
      rfl
    · rw [Lib.cell_of_heap hnew]
      rfl
    · exact ((hT i hi).2.2.keep hKK (fun _ h => h.elim)).mono (fun k (hk : k < w.heap.size) => by show k < w.heap.size + 4; omega)
    · exact (HU.out.below.alloc (by omega) _).trans ⟨rfl, rfl, rfl, by simp [World.putObj], fun k hk => World.putObj_heap_other (by omega)⟩

set_option maxRecDepth 10000 in
set_option maxHeartbeats 1000000 in
theorem build_any : ∀ (d : Nat) (ao : Option Addr) (b off n cap : Nat) (cs : List C) (rs : List R) (P : Int) (w : World), d ≤ 16 → cs.length = n → n ≤ 16384 → n ≤ cap → cap ≤ 9223372036854775807 → cs.map (fun c => c.k.r) = rs → (n = 0 ∨ ao = some ⟨b, off, none⟩) → ChRow w b off cs → Rts w b cs → (∀ c ∈ cs, c.k.put = true) →
    rs.Pairwise klt → (∀ r ∈ rs, r.hash / 2 ^ (4 * d) = P) → (∀ r ∈ rs, 0 ≤ r.hash ∧ r.hash < 18446744073709551616) →
    Calls Try.prog 38 #[.slice ao n cap, .int .i64 (4 * d : Nat)] w fun x w' => ∃ t, x = .returned (.pointer t.ptr) ∧ BldR d rs t ∧ IsT w' (· < w.heap.size) t ∧ Below w.heap.size w w' := by
  intro d
  induction d with
  | zero =>
    intro ao b off n cap cs rs P w hd hn hnb hcap hcap2 hrs hao hrow hrt hput hs hp hh
    by_cases h0 : n = 0
    · subst h0
      obtain rfl : cs = [] := List.length_eq_zero_iff.1 hn
      obtain rfl : rs = [] := hrs.symm
      clear hrs hrow hrt hput hs hp hh hao
      go_enter Try.func38, Try.ntmps38
      go_wp2
      go_ret
      exact ⟨.nil, rfl, .inl ⟨rfl, rfl⟩, trivial, (Below.refl _ _).alloc (Nat.le_refl _) _⟩
    · obtain rfl : ao = some ⟨b, off, none⟩ := hao.resolve_left h0
      refine (build_leaf b off n cap 0 cs rs w hn (by omega) hnb hrs hrow hrt hput (.inr rfl) (by omega)).mono ?_
      rintro x w' ⟨g, rfl, hL, hB⟩
      exact ⟨.leaf g rs, rfl, .inr ⟨fun e => by rw [e] at hrs; simp at hrs; rw [hrs] at hn; simp at hn; omega, g, rfl⟩, hL, hB⟩
  | succ d ih =>
    intro ao b off n cap cs rs P w hd hn hnb hcap hcap2 hrs hao hrow hrt hput hs hp hh
    by_cases h0 : n = 0
    · subst h0
      obtain rfl : cs = [] := List.length_eq_zero_iff.1 hn
      obtain rfl : rs = [] := hrs.symm
      clear hrs hrow hrt hput hs hp hh hao
      go_enter Try.func38, Try.ntmps38
      go_wp2
      go_ret
      exact ⟨.nil, rfl, .inl ⟨rfl, rfl⟩, trivial, (Below.refl _ _).alloc (Nat.le_refl _) _⟩
    · obtain rfl : ao = some ⟨b, off, none⟩ := hao.resolve_left h0
      by_cases h32 : n ≤ 32
      · refine (build_leaf b off n cap (4 * (d + 1)) cs rs w hn (by omega) hnb hrs hrow hrt hput (.inl h32) (by omega)).mono ?_
        rintro x w' ⟨g, rfl, hL, hB⟩
        exact ⟨.leaf g rs, rfl, .inr (.inl ⟨fun e => by rw [e] at hrs; simp at hrs; rw [hrs] at hn; simp at hn; omega, by rw [← hrs, List.length_map]; omega, g, rfl⟩), hL, hB⟩
      · exact build_inner d b off n cap cs rs P w hd hn hnb (by omega) hcap hcap2 hrs hrow hrt hput hs hp hh ih
end Go.Proofs.Qxb6603644a
