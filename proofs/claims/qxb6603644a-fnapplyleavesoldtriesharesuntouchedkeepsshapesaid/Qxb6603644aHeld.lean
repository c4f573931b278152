/-
  THE WALKS of held's closure (46), each (45) and held (40): a trie's routes, as changes that put each of them in.
-/
import Derived.Test.Qxb6603644aRoute
import Derived.Test.Qxb6603644aSettle
import Derived.Deep.RegionLaw
import Derived.Great.BuildSlice
namespace Go.Proofs.Qxb6603644a
open Go.RowKit Go.Shelf

/-- 'append' within the capacity; the world behind it under a name -/
theorem wpList_append_cells' {P : Program} (w : World) {ops : Array Oper} {rest : List Oper} {o : Oper} {a : Act} {Q : Exit → Act → World → Prop}
    (hg : o.guard = none) (s x : Operand) (t : TypeId) (hop : o.op = Op.call { callee := Callee.builtin Builtin.append, args := #[s, x], argTypes := #[t, t] })
    (e : TypeId) (i : TypeInfo) (size : Nat) (h1 : P.underlying t = some (.slice e)) (h2 : P.info? e = some i) (h4 : i.size = size)
    (b off k cap : Nat) (hs : a.eval s = .slice (some ⟨b, off, none⟩) k cap) (ad : Addr) (m c : Nat) (news : List Value) (hx : a.eval x = .slice (some ad) m c) (hn : news.length = m * size)
    (hc : ∀ j u, news[j]? = some u → w.cell? (ad.add j) = some u) (h1c : ∀ u ∈ news, u.oneCell' = true) (b1 : k + m ≤ cap)
    (hcc : ∀ j, j < news.length → (w.cell? ⟨b, off + k * size + j, none⟩).isSome = true) (hf : ∀ j, j < news.length → w.frozen? ⟨b, off + k * size + j, none⟩ = false)
    (hK : ∀ w', Hid (w' = w.setCells b (off + k * size) news) → wpList P ops Q rest (a.put o.dst (.slice (some ⟨b, off, none⟩) (k + m) cap)) w') :
    wpList P ops Q (o :: rest) a w := wpList_append_cells w hg s x t hop e i size h1 h2 h4 b off k cap hs ad m c news hx hn hc h1c b1 hcc hf (hK _ rfl)

/-- 'append' within the capacity at a step of a region that draws its order -/
theorem step_app_cells {P : Program} {w : World} {ops : Array Oper} {o : Oper} {a : Act} {K : Act → World → Prop} {Q : Exit → Act → World → Prop} {E : Prop} (hgd : o.guard = none) (s x : Operand) (t : TypeId)
    (hop : o.op = Op.call { callee := Callee.builtin Builtin.append, args := #[s, x], argTypes := #[t, t] })
    (e : TypeId) (i : TypeInfo) (size : Nat) (h1 : P.underlying t = some (.slice e)) (h2 : P.info? e = some i) (h4 : i.size = size)
    (b off k cap : Nat) (hs : a.eval s = .slice (some ⟨b, off, none⟩) k cap) (ad : Addr) (m c : Nat) (news : List Value) (hx : a.eval x = .slice (some ad) m c) (hn : news.length = m * size)
    (hc : ∀ j u, news[j]? = some u → w.cell? (ad.add j) = some u) (h1c : ∀ u ∈ news, u.oneCell' = true) (b1 : k + m ≤ cap)
    (hcc : ∀ j, j < news.length → (w.cell? ⟨b, off + k * size + j, none⟩).isSome = true) (hf : ∀ j, j < news.length → w.frozen? ⟨b, off + k * size + j, none⟩ = false)
    (hK : ∀ w', Hid (w' = w.setCells b (off + k * size) news) → K (a.put o.dst (.slice (some ⟨b, off, none⟩) (k + m) cap)) w') :
    if Region.wanted o (yielded ops a.tmps) = true then Oper.wp P o a w K Q else E := by
  subst h4
  have hw : Region.wanted o (yielded ops a.tmps) = true := by simp [Region.wanted, hgd]
  rw [if_pos hw]
  have hrun := run_append_room_cells (P := P) w t o.type e i h1 h2 b off k cap ad m c news hn hc h1c b1 hcc hf
  unfold Oper.wp
  simp [execOp, hop, resolve, invoke, builtin, hs, hx, hrun, Result.andThen]
  exact hK _ rfl

/-- the changes that held makes of the routes l, which lie in block A -/
def heldC (A : Nat) (l : List R) (i : Nat) : C := ⟨heldK (rAt l i), some ⟨A, i * 18, none⟩⟩
def heldCs (A : Nat) (l : List R) : List C := (List.range l.length).map (heldC A l)
theorem heldCs_length (A : Nat) (l : List R) : (heldCs A l).length = l.length := by simp [heldCs]
theorem heldCs_at (A : Nat) (l : List R) {i : Nat} (h : i < l.length) : cAt (heldCs A l) i = heldC A l i := by
  unfold cAt heldCs
  rw [List.getD_eq_getElem?_getD, List.getElem?_map, List.getElem?_range h]
  rfl
theorem rAt_snoc (l : List R) (r : R) {i : Nat} (h : i < l.length) : rAt (l ++ [r]) i = rAt l i := by
  unfold rAt
  rw [List.getD_eq_getElem?_getD, List.getD_eq_getElem?_getD, List.getElem?_append_left h]
theorem rAt_last (l : List R) (r : R) : rAt (l ++ [r]) l.length = r := by simp [rAt, List.getD_eq_getElem?_getD]

/-- the state of held's closure: the routes lr in block A, the changes of lc in block D, their slices in c1 and c2 -/
structure HU (w : World) (A D c1 c2 cnt : Nat) (lr lc : List R) (W : World) : Prop where
  s1 : W.cell? ⟨c1, 0, none⟩ = some (.slice (some ⟨A, 0, none⟩) lr.length cnt)
  s2 : W.cell? ⟨c2, 0, none⟩ = some (.slice (some ⟨D, 0, none⟩) lc.length cnt)
  f1 : W.frozen? ⟨c1, 0, none⟩ = false
  f2 : W.frozen? ⟨c2, 0, none⟩ = false
  rts : ∀ i, i < lr.length → W.rangeAt A (i * 18) (routeCells (rAt lr i))
  row : ∀ i, i < lc.length → W.rangeAt D (i * 4) (cellsC (heldC A lc i))
  tA : W.there A 0 (18 * cnt)
  tD : W.there D 0 (4 * cnt)
  ne : A ≠ D ∧ A ≠ c1 ∧ A ≠ c2 ∧ D ≠ c1 ∧ D ≠ c2 ∧ c1 ≠ c2
  ge : w.heap.size ≤ A ∧ w.heap.size ≤ D ∧ w.heap.size ≤ c1 ∧ w.heap.size ≤ c2
  lt : A < W.heap.size ∧ D < W.heap.size ∧ c1 < W.heap.size ∧ c2 < W.heap.size
  below : Below w.heap.size w W

theorem HU.keep {w : World} {A D c1 c2 cnt : Nat} {lr lc : List R} {W W' : World} (h : HU w A D c1 c2 cnt lr lc W) (hb : Below W.heap.size W W') : HU w A D c1 c2 cnt lr lc W' := by
  have hk : Keep Nowhere W W' := Keep.below hb
  have hf : ∀ k o, k < W.heap.size → W'.frozen? ⟨k, o, none⟩ = W.frozen? ⟨k, o, none⟩ := fun k o hk => World.frozen?_of_block (w := W) (hb.block k hk)
  have hsz := h.below.size
  refine ⟨hk _ _ (fun h => h) h.s1, hk _ _ (fun h => h) h.s2, (hf _ _ h.lt.2.2.1).trans h.f1, (hf _ _ h.lt.2.2.2).trans h.f2, fun i hi j v hv => hk _ _ (fun h => h) (h.rts i hi j v hv), fun i hi j v hv => hk _ _ (fun h => h) (h.row i hi j v hv),
    fun j hj => ?_, fun j hj => ?_, h.ne, h.ge, ?_, h.below.trans (hb.mono hsz)⟩
  · obtain ⟨v, hv⟩ := Option.isSome_iff_exists.1 (h.tA j hj).1
    exact ⟨by rw [hk _ _ (fun h => h) hv]; rfl, (hf _ _ h.lt.1).trans (h.tA j hj).2⟩
  · obtain ⟨v, hv⟩ := Option.isSome_iff_exists.1 (h.tD j hj).1
    exact ⟨by rw [hk _ _ (fun h => h) hv]; rfl, (hf _ _ h.lt.2.1).trans (h.tD j hj).2⟩
  · have := hb.size
    have := h.lt
    omega
theorem HU.alloc {w : World} {A D c1 c2 cnt : Nat} {lr lc : List R} {W : World} (h : HU w A D c1 c2 cnt lr lc W) (o : Obj) : HU w A D c1 c2 cnt lr lc (W.alloc o) := h.keep ((Below.refl _ _).alloc (Nat.le_refl _) _)
theorem HU.drew {w : World} {A D c1 c2 cnt : Nat} {lr lc : List R} {W : World} (h : HU w A D c1 c2 cnt lr lc W) : HU w A D c1 c2 cnt lr lc W.drew := h.keep ⟨rfl, rfl, rfl, Nat.le_refl _, fun _ _ => rfl⟩

theorem range_set {W : World} {b o c : Nat} {cs : List Value} (h : W.rangeAt b o cs) (hne : c ≠ b) (v : Value) : (W.setCell ⟨c, 0, none⟩ v).rangeAt b o cs := fun j u hu => by
  rw [World.cell?_setCell_other _ _ _ _ (fun e => hne (by simpa using congrArg Addr.block e))]
  exact h j u hu
theorem there_set {W : World} {b o c n : Nat} (h : W.there b o n) (hne : c ≠ b) (v : Value) : (W.setCell ⟨c, 0, none⟩ v).there b o n := fun j hj => by
  rw [World.cell?_setCell_other _ _ _ _ (fun e => hne (by simpa using congrArg Addr.block e)), World.frozen?_setCell]
  exact h j hj
theorem there_cells {W : World} {b o n b' o' : Nat} (vs : List Value) (h : W.there b o n) : (W.setCells b' o' vs).there b o n := fun j hj => ⟨World.isSome_setCells b' vs o' W _ (h j hj).1, by rw [World.frozen?_setCells]; exact (h j hj).2⟩
theorem cell_cells {W : World} {b' o' c : Nat} {u : Value} (vs : List Value) (h : W.cell? ⟨c, 0, none⟩ = some u) (hne : c ≠ b') : (W.setCells b' o' vs).cell? ⟨c, 0, none⟩ = some u := by
  rw [World.cell?_setCells_out b' vs o' W _ (fun e => absurd e hne)]
  exact h
theorem size_setCells (b : Nat) : ∀ (vs : List Value) (o : Nat) (W : World), (W.setCells b o vs).heap.size = W.heap.size
  | [], _, _ => rfl
  | v :: r, o, W => by rw [World.setCells, size_setCells b r, World.size_setCell]

theorem HU.putR {w : World} {A D c1 c2 cnt : Nat} {l : List R} {W : World} (h : HU w A D c1 c2 cnt l l W) (hl : l.length < cnt) (r : R) :
    HU w A D c1 c2 cnt (l ++ [r]) l ((W.setCells A (l.length * 18) (routeCells r)).setCell ⟨c1, 0, none⟩ (.slice (some ⟨A, 0, none⟩) (l.length + 1) cnt)) := by
  obtain ⟨n1, n2, n3, n4, n5, n6⟩ := h.ne
  obtain ⟨g1, g2, g3, g4⟩ := h.ge
  have hlen : (routeCells r).length = 18 := rfl
  have e1 := cell_cells (b' := A) (o' := l.length * 18) (routeCells r) h.s1 (fun e => n2 e.symm)
  have e2 := cell_cells (b' := A) (o' := l.length * 18) (routeCells r) h.s2 (fun e => n3 e.symm)
  have ht : W.there A (l.length * 18) 18 := fun j hj => by
    have := h.tA (l.length * 18 + j) (by omega)
    rw [Nat.zero_add] at this
    exact this
  refine ⟨?_, ?_, ?_, ?_, fun i hi => ?_, fun i hi => ?_, there_set (there_cells _ h.tA) (fun e => n2 e.symm) _, there_set (there_cells _ h.tD) (fun e => n4 e.symm) _, h.ne, h.ge, ?_, ?_⟩
  · rw [World.cell?_setCell_same' _ _ _ (by rw [e1]; rfl)]
    simp
  · rw [World.cell?_setCell_other _ _ _ _ (fun e => n6 (congrArg Addr.block e))]
    exact e2
  · rw [World.frozen?_setCell, World.frozen?_setCells]; exact h.f1
  · rw [World.frozen?_setCell, World.frozen?_setCells]; exact h.f2
  · simp at hi
    refine range_set ?_ (fun e => n2 e.symm) _
    by_cases e : i = l.length
    · subst e
      rw [rAt_last]
      exact World.rangeAt_setCells_same W A _ _ (by rw [hlen]; exact ht)
    · rw [rAt_snoc l r (by omega)]
      exact World.rangeAt_setCells_apart (h.rts i (by omega)) A _ _ (.inr (.inl (by have : (routeCells (rAt l i)).length = 18 := rfl; omega)))
  · exact range_set (World.rangeAt_setCells_apart (h.row i hi) A _ _ (.inl (fun e => n1 e.symm))) (fun e => n4 e.symm) _
  · rw [World.size_setCell, size_setCells]
    exact h.lt
  · exact (Below.setCells' h.below g1 _ _).setCell (p := ⟨c1, 0, none⟩) g3 _
theorem HU.putC {w : World} {A D c1 c2 cnt : Nat} {l : List R} {r : R} {W : World} (h : HU w A D c1 c2 cnt (l ++ [r]) l W) (hl : l.length < cnt) :
    HU w A D c1 c2 cnt (l ++ [r]) (l ++ [r]) ((W.setCells D (l.length * 4) (cellsC (heldC A (l ++ [r]) l.length))).setCell ⟨c2, 0, none⟩ (.slice (some ⟨D, 0, none⟩) (l.length + 1) cnt)) := by
  obtain ⟨n1, n2, n3, n4, n5, n6⟩ := h.ne
  obtain ⟨g1, g2, g3, g4⟩ := h.ge
  have hlen : (cellsC (heldC A (l ++ [r]) l.length)).length = 4 := rfl
  have e1 := cell_cells (b' := D) (o' := l.length * 4) (cellsC (heldC A (l ++ [r]) l.length)) h.s1 (fun e => n4 e.symm)
  have e2 := cell_cells (b' := D) (o' := l.length * 4) (cellsC (heldC A (l ++ [r]) l.length)) h.s2 (fun e => n5 e.symm)
  have ht : W.there D (l.length * 4) 4 := fun j hj => by
    have := h.tD (l.length * 4 + j) (by omega)
    rw [Nat.zero_add] at this
    exact this
  refine ⟨?_, ?_, ?_, ?_, fun i hi => ?_, fun i hi => ?_, there_set (there_cells _ h.tA) (fun e => n3 e.symm) _, there_set (there_cells _ h.tD) (fun e => n5 e.symm) _, h.ne, h.ge, ?_, ?_⟩
  · rw [World.cell?_setCell_other _ _ _ _ (fun e => n6 (congrArg Addr.block e).symm)]
    exact e1
  · rw [World.cell?_setCell_same' _ _ _ (by rw [e2]; rfl)]
    simp
  · rw [World.frozen?_setCell, World.frozen?_setCells]; exact h.f1
  · rw [World.frozen?_setCell, World.frozen?_setCells]; exact h.f2
  · exact range_set (World.rangeAt_setCells_apart (h.rts i hi) D _ _ (.inl n1)) (fun e => n3 e.symm) _
  · simp at hi
    refine range_set ?_ (fun e => n5 e.symm) _
    by_cases e : i = l.length
    · subst e
      exact World.rangeAt_setCells_same W D _ _ (by rw [hlen]; exact ht)
    · have e3 : heldC A (l ++ [r]) i = heldC A l i := by simp only [heldC, rAt_snoc l r (show i < l.length by omega)]
      rw [e3]
      exact World.rangeAt_setCells_apart (h.row i (by omega)) D _ _ (.inr (.inl (by have : (cellsC (heldC A l i)).length = 4 := rfl; omega)))
  · rw [World.size_setCell, size_setCells]
    exact h.lt
  · exact (Below.setCells' h.below g2 _ _).setCell (p := ⟨c2, 0, none⟩) g4 _

theorem Try.info53 : (Try.prog.info? 53).map (fun i => (i.zero, i.size, i.bytes)) = some (some (.agg #[.string ⟨#[]⟩, .string ⟨#[]⟩, .string ⟨#[]⟩, .string ⟨#[]⟩, .string ⟨#[]⟩, .string ⟨#[]⟩, .string ⟨#[]⟩, .int .i64 0, .int .i64 0, .string ⟨#[]⟩, .int .i64 0, .int .i64 0, .string ⟨#[]⟩, .string ⟨#[]⟩, .string ⟨#[]⟩, .string ⟨#[]⟩, .string ⟨#[]⟩, .string ⟨#[]⟩]), 18, 256) := by kernel_rfl

/-- a slice literal of one struct -/
theorem wpList_build1 {t e : TypeId} {z : Value} {size bytes : Nat} (hu : Try.prog.underlying t = some (.slice e)) (hinfo : (Try.prog.info? e).map (fun i => (i.zero, i.size, i.bytes)) = some (some z, size, bytes)) (hs0 : 0 < size) (hs1 : size ≤ 1000)
    {ops : Array Oper} {rest : List Oper} {o : Oper} {a : Act} {w : World} {Q : Exit → Act → World → Prop} (hg : o.guard = none) (x : Operand) (ho : o.op = .buildSlice t 1 #[(0, x)]) (vs : List Value) (hl : vs.length = size) (hx : a.eval x = .agg vs.toArray)
    (h : wpList Try.prog ops Q rest (a.put o.dst (.slice (some ⟨w.heap.size, 0, none⟩) 1 1)) (w.alloc (.cells vs.toArray e))) : wpList Try.prog ops Q (o :: rest) a w := by
  obtain ⟨i1, hi1, hy0, hy1, hy2⟩ := info_parts hinfo
  refine wpList_buildSlice hg t e 1 _ ho vs.toArray i1 _ hu hi1 hy0 (by rw [hy1]; omega) (by rw [hy1]; omega) ?_ h
  rw [hy1]
  have : (#[((0 : Nat), x)].map fun (p : Nat × Operand) => (p.1, a.eval p.2)).toList = [(0, .agg vs.toArray)] := by simp [hx]
  rw [this]
  have hf := Go.Great.fill_whole hs0 [Value.agg vs.toArray] ((Array.range (1 * size)).map (z.cells[· % z.cells.size]!)) (by simp [Value.cells, hl]) (by simp)
  simpa [Value.cells] using hf

set_option maxRecDepth 10000 in
set_option maxHeartbeats 1000000 in
theorem held1_any (w : World) (A D c1 c2 cnt : Nat) (l : List R) (r : R) (W : World) (hU : HU w A D c1 c2 cnt l l W) (hl : l.length < cnt) (hcnt : cnt ≤ 16384) :
    Calls Try.prog 46 #[.int .u64 r.hash, aggR r, .pointer (some ⟨c1, 0, none⟩), .pointer (some ⟨c2, 0, none⟩)] W fun x W' => x = .returned (.bool true) ∧ HU w A D c1 c2 cnt (l ++ [r]) (l ++ [r]) W' := by
  obtain ⟨i1, hi1, hy0, hy1, hy2⟩ := info_parts Try.info53
  clear hy0 hy2
  obtain ⟨lt1, lt2, lt3, lt4⟩ := hU.lt
  obtain ⟨n1, n2, n3, n4, n5, n6⟩ := hU.ne
  have HU0 : Hid (HU w A D c1 c2 cnt l l W) := hU
  have hcells : (aggR r) = .agg #[.string (r.tx 0), .string (r.tx 1), .string (r.tx 2), .string (r.tx 3), .string (r.tx 4), .string (r.tx 5), .string (r.tx 6), .int .i64 (r.nm 0), .int .i64 (r.nm 1), .string (r.tx 7), .int .i64 (r.nm 2), .int .i64 (r.nm 3), .string (r.tx 8), .string (r.tx 9), .string (r.tx 10), .string (r.tx 11), .string (r.tx 12), .string (r.tx 13)] := rfl
  clear hU
  obtain ⟨m, hm⟩ : ∃ m, l.length = m := ⟨_, rfl⟩
  rw [hm] at hl
  have HM : Hid (l.length = m) := hm
  clear hm
  rw [hcells]
  clear hcells
  go_enter Try.func46, Try.ntmps46
  go_upto_region 1 with fail
  obtain ⟨W1, hW1⟩ : ∃ W1, W1 = W.alloc (.cells #[.string (r.tx 0), .string (r.tx 1), .string (r.tx 2), .string (r.tx 3), .string (r.tx 4), .string (r.tx 5), .string (r.tx 6), .int .i64 (r.nm 0), .int .i64 (r.nm 1), .string (r.tx 7), .int .i64 (r.nm 2), .int .i64 (r.nm 3), .string (r.tx 8), .string (r.tx 9), .string (r.tx 10), .string (r.tx 11), .string (r.tx 12), .string (r.tx 13)] 53) := ⟨_, rfl⟩
  rw [← hW1]
  have HU1 : Hid (HU w A D c1 c2 cnt l l W1) := by rw [hW1]; exact HU0.out.alloc _
  have hR1 : W1.rangeAt W.heap.size 0 (routeCells r) := by
    intro j v hj
    rw [hW1, Lib.cell_of_heap (heap_alloc_new _ _), Nat.zero_add, ← hj]
    show (routeCells r).toArray[j]? = _
    simp
  have hs1 : W.heap.size < W1.heap.size := by rw [hW1]; simp
  have q1 := HU1.out.s1
  have q3 := HU1.out.f1
  rw [HM.out] at q1
  obtain ⟨lt1', lt2', lt3', lt4'⟩ := HU1.out.lt
  have HUa : Hid (HU w A D c1 c2 cnt l l (W1.alloc (.cells (routeCells r).toArray 53))) := HU1.out.alloc _
  have hthere : Hid (∀ j, j < 18 → ((W1.alloc (.cells (routeCells r).toArray 53)).cell? ⟨A, 0 + m * 18 + j, none⟩).isSome = true ∧ (W1.alloc (.cells (routeCells r).toArray 53)).frozen? ⟨A, 0 + m * 18 + j, none⟩ = false) := fun j hj => by
    have := HUa.out.tA (m * 18 + j) (by omega)
    rw [← Nat.add_assoc] at this
    exact this
  clear hW1
  go_upto_region 2 with (first
    | (refine wpList_load_mid rfl 53 _ rfl W.heap.size 0 rfl (routeCells r) _ hR1 Try.underlying53 rfl Try.size53 ?_)
    | (refine wpList_build1 Try.underlying46 Try.info53 (by decide) (by decide) rfl _ rfl (routeCells r) rfl rfl ?_)
    | (at_builtin; refine wpList_append_cells' _ rfl _ _ 46 rfl 53 i1 18 Try.underlying46 hi1 hy1 A 0 m cnt rfl ⟨W1.heap.size, 0, none⟩ 1 1 (routeCells r) rfl rfl ?c1 (route_one r) hl ?c3 ?c4 ?_; rotate_right; intro w2 hw2; have hcq : w2.cell? ⟨c1, 0, none⟩ = some (.slice (some ⟨A, 0, none⟩) m cnt) := (by rw [hw2.out, ← HM.out]; exact cell_cells (b' := A) (routeCells r) HUa.out.s1 (fun e => n2 e.symm)); have hfq : w2.frozen? ⟨c1, 0, none⟩ = false := (by rw [hw2.out, World.frozen?_setCells]; exact HUa.out.f1)))
  case c1 =>
    intro j u hj
    rw [Addr.add_mid, Lib.cell_of_heap (heap_alloc_new _ _), Nat.zero_add, ← hj]
    simp
  case c3 => exact fun j hj => (hthere.out j hj).1
  case c4 => exact fun j hj => (hthere.out j hj).2
  obtain ⟨W3, hW3⟩ : ∃ W3, W3 = w2.setCell ⟨c1, 0, none⟩ (.slice (some ⟨A, 0, none⟩) (m + 1) cnt) := ⟨_, rfl⟩
  rw [← hW3]
  have HU3 : Hid (HU w A D c1 c2 cnt (l ++ [r]) l W3) := by
    have := HUa.out.putR (by rw [HM.out]; exact hl) r
    rw [HM.out] at this
    rw [hW3, hw2.out, Nat.zero_add]
    exact this
  have hid3 : W3.cell? ⟨W.heap.size, 0, none⟩ = some (.string (r.tx 0)) := by
    rw [hW3, World.cell?_setCell_other _ _ _ _ (fun e => absurd (congrArg Addr.block e) (by simp; omega)), hw2.out, cell_cells (routeCells r) (keep_new _ _ _ _ (fun h => h) (hR1 0 _ rfl)) (by omega)]
  have q1 := HU3.out.s1
  have q2 := HU3.out.s2
  have q4 := HU3.out.f2
  have e1 : (l ++ [r]).length = m + 1 := by rw [List.length_append, HM.out]; rfl
  rw [e1] at q1
  rw [HM.out] at q2
  obtain ⟨lt1, lt2, lt3, lt4⟩ := HU3.out.lt
  have hW3l : W.heap.size < W3.heap.size := cell_lt hid3
  clear hcq hfq hw2 hW3 hR1 hthere HUa HU1 HU0 e1
  have ht : ∀ j, j < 4 → (∃ v, W3.cell? ⟨D, m * 4 + j, none⟩ = some v) ∧ W3.frozen? ⟨D, m * 4 + j, none⟩ = false := fun j hj => by
    have := HU3.out.tD (m * 4 + j) (by omega)
    rw [Nat.zero_add] at this
    exact ⟨Option.isSome_iff_exists.1 this.1, this.2⟩
  obtain ⟨⟨v0, t0⟩, g0⟩ := ht 0 (by omega)
  obtain ⟨⟨v1, t1⟩, g1⟩ := ht 1 (by omega)
  obtain ⟨⟨v2, t2⟩, g2⟩ := ht 2 (by omega)
  obtain ⟨⟨v3, t3⟩, g3⟩ := ht 3 (by omega)
  rw [Nat.add_zero] at t0 g0
  clear ht
  have hwm : IntKind.i64.wrap (m : Int) = (m : Int) := by simp [IntKind.wrap, IntKind.bits, IntKind.signed]; omega
  have hmm : (m : Int) < (m : Int) + 1 := by omega
  obtain ⟨hh, hhh⟩ : ∃ hh, r.hash = hh := ⟨_, rfl⟩
  obtain ⟨id, hid⟩ : ∃ id, r.tx 0 = id := ⟨_, rfl⟩
  have HHH : Hid (cellsC (heldC A (l ++ [r]) l.length) = [.int .u64 hh, .int .i64 (-1), .string id, .pointer (some ⟨A, m * 18, none⟩)]) := by
    show _ = _
    simp only [cellsC, heldC, heldK, C.hash, C.seq, C.id]
    rw [rAt_last, hhh, hid, HM.out]
  have HU4 : Hid (HU w A D c1 c2 cnt (l ++ [r]) (l ++ [r]) ((W3.setCells D (m * 4) [.int .u64 hh, .int .i64 (-1), .string id, .pointer (some ⟨A, m * 18, none⟩)]).setCell ⟨c2, 0, none⟩ (.slice (some ⟨D, 0, none⟩) (m + 1) cnt))) := by
    have := HU3.out.putC (by rw [HM.out]; exact hl)
    rw [HHH.out, HM.out] at this
    exact this
  rw [hid] at hid3
  simp only [hhh]
  clear hhh hid
  have hl1 : m + 1 ≤ cnt := hl
  go_region
  go_wp2
  go_ret
  exact ⟨rfl, (HU4.out.alloc _).drew⟩
end Go.Proofs.Qxb6603644a
