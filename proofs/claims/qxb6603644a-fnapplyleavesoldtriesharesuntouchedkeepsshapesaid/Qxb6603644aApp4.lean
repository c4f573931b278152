/-
  apply (22) on an inner node: the loop over the runs.
-/
import Derived.Test.Qxb6603644aApp3
namespace Go.Proofs.Qxb6603644a
open Go.RowKit Go.Shelf
attribute [local go_sem] Oper.semAt_some

/-- the blocks in which a subtree does not lie while apply is at work -/
def NN (N : Nat → Prop) (b0 : Nat) : Nat → Prop := fun k => (N k ∧ k < b0) ∨ (b0 ≤ k ∧ k < b0 + 4)

/-- what lies where while apply fills the children: p changes are done -/
structure AU (w : World) (d b off : Nat) (N : Nat → Prop) (ch : Nat → Tr) (cs : List C) (p : Nat) (W : World) : Prop where
  kids : ∃ T : Nat → Tr, ∀ i, i < 16 → W.cell? ⟨w.heap.size + 1, i, none⟩ = some (.pointer (T i).ptr) ∧ ApR d (ch i) ((upTo cs (4 * (d + 1)) p i).map fun c => c.k) (T i) ∧ IsT W (NN N w.heap.size) (T i)
  fz : ∀ i, W.frozen? ⟨w.heap.size + 1, i, none⟩ = false
  sh : W.cell? ⟨w.heap.size, 0, none⟩ = some (.int .i64 (4 * (d + 1) : Nat))
  keep : Keep (Seg b off (off + p * 4)) w W
  below : Below b w W
  others : KeepsOthers w W
  bz : ∀ o, W.frozen? ⟨b, o, none⟩ = false
  size : w.heap.size + 4 ≤ W.heap.size
  blk : ∀ k, k ≠ b → k < w.heap.size → W.heap[k]? = w.heap[k]?
theorem AU.keep' {w : World} {d b off p : Nat} {N : Nat → Prop} {ch : Nat → Tr} {cs : List C} {W W' : World} {X : Addr → Prop} (h : AU w d b off N ch cs p W) (hk : Keep X W W') (hX : ∀ x, X x → x.block = w.heap.size + 2) (hf : W'.heap[w.heap.size + 1]? = W.heap[w.heap.size + 1]?) (hbl : b < w.heap.size) (hfb : ∀ k, k < w.heap.size → W'.heap[k]? = W.heap[k]?) (hb : Below b W W') (ho : KeepsOthers W W') : AU w d b off N ch cs p W' := by
  obtain ⟨T, hT⟩ := h.kids
  have hn : ∀ (k o : Nat), k ≠ w.heap.size + 2 → ¬ X ⟨k, o, none⟩ := fun k o hkb hh => hkb (hX _ hh)
  exact ⟨⟨T, fun i hi => ⟨hk _ _ (hn _ _ (by omega)) (hT i hi).1, (hT i hi).2.1, (hT i hi).2.2.keep hk (fun x hx => .inr (by rw [hX x hx]; omega))⟩⟩,
    fun i => (World.frozen?_of_block (w := W) hf).trans (h.fz i), hk _ _ (hn _ _ (by omega)) h.sh, fun x v hx hv => hk x v (fun hh => by have := cell_lt hv; have := hX x hh; omega) (h.keep x v hx hv), h.below.trans hb, h.others.trans ho, fun o => (World.frozen?_of_block (w := W) (hfb b hbl)).trans (h.bz o), Nat.le_trans h.size hb.size, fun k h1 h2 => (hfb k h2).trans (h.blk k h1 h2)⟩
theorem AU.alloc {w : World} {d b off p : Nat} {N : Nat → Prop} {ch : Nat → Tr} {cs : List C} {W : World} (h : AU w d b off N ch cs p W) (hbl : b < w.heap.size) (o : Obj) : AU w d b off N ch cs p (W.alloc o) :=
  h.keep' (keep_new W o) (fun _ h => h.elim) (Below.heap_alloc _ _ _ (by have := h.size; omega)) hbl (fun k hk => Below.heap_alloc _ _ _ (by have := h.size; omega)) ((Below.refl b W).alloc (by have := h.size; omega) _) (KeepsOthers.alloc _ _)
theorem AU.put {w : World} {d b off p : Nat} {N : Nat → Prop} {ch : Nat → Tr} {cs : List C} {W : World} (h : AU w d b off N ch cs p W) (hbl : b < w.heap.size) {l : Nat} {o o' : Obj} (hl : w.heap.size + 4 ≤ l) (hlo : W.heap[l]? = some o) (ho : o.isCells = false) : AU w d b off N ch cs p (W.putObj l o') := by
  obtain ⟨T, hT⟩ := h.kids
  have hk : Keep Nowhere W (W.putObj l o') := (Keep.refl Nowhere W).putObj hlo ho
  exact ⟨⟨T, fun i hi => ⟨hk _ _ (fun h => h) (hT i hi).1, (hT i hi).2.1, (hT i hi).2.2.keep hk (fun _ h => h.elim)⟩⟩,
    fun i => (World.frozen?_of_block (w := W) (World.putObj_heap_other (show w.heap.size + 1 ≠ l by omega))).trans (h.fz i), hk _ _ (fun h => h) h.sh, fun x v hx hv => hk x v (fun h => h) (h.keep x v hx hv),
    h.below.trans ⟨rfl, rfl, rfl, by simp [World.putObj], fun k hk => World.putObj_heap_other (by omega)⟩,
    ⟨by simpa [World.putObj] using h.others.size, fun k o hk hc => by rw [World.putObj_heap_other (by have := heap_lt hk; omega)]; exact h.others.same k o hk hc⟩,
    fun o => (World.frozen?_of_block (w := W) (World.putObj_heap_other (show b ≠ l by omega))).trans (h.bz o), by simpa [World.putObj] using h.size, fun k h1 h2 => (World.putObj_heap_other (by omega)).trans (h.blk k h1 h2)⟩
theorem AU.set {w : World} {d b off p : Nat} {N : Nat → Prop} {ch : Nat → Tr} {cs : List C} {W : World} (h : AU w d b off N ch cs p W) (hbl : b < w.heap.size) (v : Value) : AU w d b off N ch cs p (W.setCell ⟨w.heap.size + 2, 0, none⟩ v) :=
  h.keep' ((Keep.refl (fun x => x.block = w.heap.size + 2) W).setCell _ _ (.inl rfl)) (fun _ h => h) (Below.heap_setCell _ _ _ _ (by simp)) hbl (fun k hk => Below.heap_setCell _ _ _ _ (by show k ≠ w.heap.size + 2; omega)) ((Below.refl b W).setCell (p := ⟨w.heap.size + 2, 0, none⟩) (by show b ≤ w.heap.size + 2; omega) _) (KeepsOthers.setCell _ _ _)
theorem AU.drewN {w : World} {d b off p : Nat} {N : Nat → Prop} {ch : Nat → Tr} {cs : List C} {W : World} (h : AU w d b off N ch cs p W) (hbl : b < w.heap.size) (q : Nat) : AU w d b off N ch cs p (W.drewN q) :=
  h.keep' (fun _ _ _ hv => hv) (fun _ (hx : False) => hx.elim) rfl hbl (fun _ _ => rfl) ⟨rfl, rfl, rfl, Nat.le_refl _, fun _ _ => rfl⟩ ⟨Nat.le_refl _, fun _ _ h _ => h⟩

/-- a round of apply's loop: the run from p on is applied, its child stored -/
theorem AU.round {w : World} {d b off p k j : Nat} {N : Nat → Prop} {ch : Nat → Tr} {cs : List C} {W w5 : World} {t : Tr} (hU : AU w d b off N ch cs p W) (hbl : b < w.heap.size) (hNb : N b) (hk : p + k ≤ cs.length) (hj : j < 16) (hall : ∀ q, p ≤ q → q < p + k → slotOf (cAt cs q).hash (4 * (d + 1)) = (j : Int)) (hno : ∀ q, q < p → slotOf (cAt cs q).hash (4 * (d + 1)) ≠ (j : Int))
    (hP : AP d (ch j) W (NN N w.heap.size) b (off + p * 4) k (seg cs p k) t w5) : AU w d b off N ch cs (p + k) (w5.setCell ⟨w.heap.size + 1, j, none⟩ (.pointer t.ptr)) := by
  obtain ⟨T, hTT⟩ := hU.kids
  have hsz := hU.size
  have hK : Keep (Seg b (off + p * 4) (off + p * 4 + k * 4)) W w5 := hP.keep
  have hK2 : Keep (fun x => x.block = w.heap.size + 1) w5 (w5.setCell ⟨w.heap.size + 1, j, none⟩ (.pointer t.ptr)) := fun x v hx hv => ((Keep.refl _ _).setCell (X := fun x => x.block = w.heap.size + 1) _ _ (.inl rfl)) x v hx hv
  have hnS : ∀ (c o : Nat), w.heap.size ≤ c → ¬ Seg b (off + p * 4) (off + p * 4 + k * 4) ⟨c, o, none⟩ := fun c o hc hh => by have := hh.1; simp at this; omega
  have h5s : W.heap.size ≤ w5.heap.size := hP.below.size
  refine ⟨⟨fun q => if q = j then t else T q, fun q hq => ?_⟩, fun i => ?_, ?_, ?_, ?_, ?_, ?_, ?_, fun k' h1 h2 => ?_⟩
  · have h1 := hK _ _ (hnS _ _ (by omega)) (hTT q hq).1
    by_cases e : q = j
    · subst e
      simp only [if_true]
      refine ⟨World.cell?_setCell_same' _ _ _ (by rw [h1]; rfl), ?_, (hP.isT.mono (fun k hk => ⟨hk, ?_⟩)).keep hK2 (fun x hx => .inr (by rw [hx]; omega))⟩
      · rw [upTo_step cs _ p k q q hk hall hno, if_pos rfl]
        exact hP.ap
      · rcases hk with hk | hk <;> omega
    · simp only [if_neg e]
      refine ⟨?_, ?_, ((hTT q hq).2.2.keep hK (fun x hx => .inl ?_)).keep hK2 (fun x hx => .inr (by rw [hx]; omega))⟩
      · show World.cell? (w5.setCell _ _) _ = _
        rw [World.cell?_setCell_other _ _ _ _ (fun h => e (by simpa using h.symm))]
        exact h1
      · rw [upTo_step cs _ p k j q hk hall hno, if_neg (by omega)]
        exact (hTT q hq).2.1
      · rw [hx.1]; exact ⟨hNb, hbl⟩
  · show World.frozen? (w5.setCell _ _) _ = _
    rw [World.frozen?_setCell]
    exact (World.frozen?_of_block (w := W) (hP.blk (w.heap.size + 1) (by omega) (by omega))).trans (hU.fz i)
  · exact hK2 _ _ (by simp) (hK _ _ (hnS _ _ (by omega)) hU.sh)
  · intro x v hx hv
    have hxl := cell_lt hv
    refine hK2 x v (fun e => by omega) (hK x v (fun hh => hx ⟨hh.1, by have := hh.2.1; omega, by have := hh.2.2; omega⟩) (hU.keep x v (fun hh => hx ⟨hh.1, hh.2.1, by have := hh.2.2; omega⟩) hv))
  · exact ((hU.below.trans hP.below).setCell (p := ⟨w.heap.size + 1, j, none⟩) (by show b ≤ w.heap.size + 1; omega) _)
  · exact (hU.others.trans hP.others).trans (KeepsOthers.setCell _ _ _)
  · intro o
    show World.frozen? (w5.setCell _ _) _ = _
    rw [World.frozen?_setCell]
    exact hP.fz o
  · show w.heap.size + 4 ≤ (w5.setCell _ _).heap.size
    rw [World.size_setCell]
    omega
  · rw [Below.heap_setCell _ _ _ _ (by show k' ≠ w.heap.size + 1; omega), hP.blk k' h1 (by omega), hU.blk k' h1 h2]
theorem AH.drew {d : Nat} {P : Int} {t : Tr} {w : World} {N : Nat → Prop} {b off n cap : Nat} {cs : List C} (h : AH d P t w N b off n cap cs) : AH d P t w.drew N b off n cap cs :=
  ⟨h.d16, h.good, IsT.keep (X := Nowhere) (w := w) (w' := w.drew) (fun _ _ _ h => h) (fun _ h => h.elim) h.isT, h.nb, h.len, h.cnt, h.cap1, h.cap2, h.row, h.rts.keep (X := Nowhere) (w' := w.drew) (fun _ _ _ h => h) (fun _ h => h.elim), h.fz, h.srt, h.pre, h.seq, h.one, h.hr⟩
theorem cnt_le (ch : Nat → Tr) {j : Nat} (hj : j < 16) : (ch j).cnt ≤ sumC ch := by
  have : ∀ (l : List Nat), j ∈ l → (ch j).cnt ≤ (l.map fun i => (ch i).cnt).sum := by
    intro l
    induction l with
    | nil => intro h; simp at h
    | cons a l ih =>
      intro h
      rw [List.map_cons, List.sum_cons]
      rcases List.mem_cons.1 h with rfl | h
      · omega
      · have := ih h
        omega
  exact this _ (List.mem_range.2 hj)

/-- what the recursive call asks, in the round of the run from p on -/
theorem AU.child {w : World} {d b off n cap p k j g c : Nat} {P : Int} {N : Nat → Prop} {ch : Nat → Tr} {cs : List C} {W : World} (hU : AU w d b off N ch cs p W) (hA : AH (d + 1) P (.inner g ch c) w N b off n cap cs) (hbl : b < w.heap.size) (hk0 : 0 < k) (hk : p + k ≤ cs.length) (hj : j < 16) (hall : ∀ q, p ≤ q → q < p + k → slotOf (cAt cs q).hash (4 * (d + 1)) = (j : Int)) (hno : ∀ q, q < p → slotOf (cAt cs q).hash (4 * (d + 1)) ≠ (j : Int)) :
    AH d (P * 16 + j) (ch j) W (NN N w.heap.size) b (off + p * 4) k (cap - p) (seg cs p k) ∧ W.cell? ⟨w.heap.size + 1, j, none⟩ = some (.pointer (ch j).ptr) := by
  obtain ⟨T, hT⟩ := hU.kids
  have hg := hA.good
  obtain ⟨d', hd', _, hc, hgc⟩ := hg
  obtain rfl : d = d' := by omega
  have hTj : T j = ch j := by
    have h1 := (hT j hj).2.1
    rw [upTo_none cs _ p j (by omega) hno] at h1
    exact ap_nil_eq h1
  have hcs : ∀ x ∈ seg cs p k, x ∈ cs := fun x hx => (seg_sub cs p k).mem hx
  have hsubc : ∀ r, r ∈ (ch j).collect ++ (seg cs p k).map (fun c => c.k.r) → r ∈ (Tr.inner g ch c).collect ++ cs.map (fun c => c.k.r) := by
    intro r hr
    rcases List.mem_append.1 hr with h | h
    · exact List.mem_append_left _ (by simp only [Tr.collect, List.mem_flatMap]; exact ⟨j, List.mem_range.2 hj, h⟩)
    · obtain ⟨x, hx, rfl⟩ := List.mem_map.1 h
      exact List.mem_append_right _ (List.mem_map_of_mem (hcs x hx))
  refine ⟨⟨by have := hA.d16; omega, hgc j hj, ?_, .inl ⟨hA.nb, hbl⟩, seg_length _ _ _ hk, ?_, ?_, ?_, ?_, ?_, hU.bz, ?_, ?_, fun x hx => hA.seq x (hcs x hx), fun a ha b hb => hA.one a (hsubc a ha) b (hsubc b hb), fun r hr => hA.hr r (hsubc r hr)⟩, ?_⟩
  · rw [← hTj]; exact (hT j hj).2.2
  · have h1 := cnt_le ch hj
    have h2 := hA.cnt
    have h3 : (Tr.inner g ch c).cnt = c := rfl
    have h4 := hA.len
    omega
  · have := hA.cap1; have := hA.len; omega
  · have := hA.cap2; omega
  · have h1 : ChRow w b (off + p * 4) (seg cs p k) := hA.row.seg hk
    refine h1.keep hU.keep (fun x hx hb => .inl ?_)
    have := hx.2.2
    omega
  · intro x hx
    exact (hA.rts.keep hU.keep (fun y hy => hy.1)) x (hcs x hx)
  · rw [seg_map]
    exact hA.srt.sublist (seg_sub _ _ _)
  · intro x hx
    obtain ⟨q, hq1, hq2, rfl⟩ := mem_seg hk hx
    have h2 := hA.pre _ (hcs _ hx)
    have h3 := cut16 (cAt cs q).k.r.hash d
    have h4 : slotOf (cAt cs q).k.r.hash (4 * (d + 1)) = (j : Int) := hall q hq1 hq2
    rw [h2, h4] at h3
    exact h3
  · rw [(hT j hj).1, hTj]
end Go.Proofs.Qxb6603644a
