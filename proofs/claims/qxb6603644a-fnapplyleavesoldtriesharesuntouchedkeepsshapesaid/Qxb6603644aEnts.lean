/-
  TOWARDS newLeaf (44): a leaf's entries while they are written.
-/
import Derived.Test.Qxb6603644aMem
import Derived.Test.Qxb6603644aBld
import Derived.Test.Qxb6603644aShelf
import Derived.Shelf.Strings.BuilderK
import Derived.Deep.RegionWith
import Derived.Deep.RegionHeld3
namespace Go.Proofs.Qxb6603644a
open Go.RowKit Go.Shelf

theorem RouteAt.later {w w' : World} {b o : Nat} {r : R} (h : RouteAt w b o r) (hB : Below w.heap.size w w') : RouteAt w' b o r := h.keep (Keep.below (X := Nowhere) hB) (fun _ h => h.elim)
theorem cAt_mem {cs : List C} {k : Nat} (h : k < cs.length) : cAt cs k ∈ cs := by
  unfold cAt
  rw [List.getD_eq_getElem?_getD, List.getElem?_eq_getElem h]
  exact List.getElem_mem h
theorem cAt_map {cs : List C} {k : Nat} : (cAt cs k).k.r = rAt (cs.map fun c => c.k.r) k := by
  unfold cAt rAt
  rw [List.getD_eq_getElem?_getD, List.getD_eq_getElem?_getD, List.getElem?_map]
  cases cs[k]? <;> rfl

/-- the k-th change of a row whose changes all put -/
theorem row_elem {w wr : World} {b off : Nat} {cs : List C} {k : Nat} (hrow : ChRow w b off cs) (hrt : Rts w b cs) (hput : ∀ c ∈ cs, c.k.put = true) (h : k < cs.length) (hB : Below w.heap.size w wr) :
    ∃ (sq : Int) (id : ByteArray) (rb ro : Nat), wr.cell? ⟨b, off + k * 4, none⟩ = some (.int .u64 (rAt (cs.map fun c => c.k.r) k).hash) ∧ wr.cell? ⟨b, off + k * 4 + 1, none⟩ = some (.int .i64 sq) ∧ wr.cell? ⟨b, off + k * 4 + 2, none⟩ = some (.string id) ∧
      wr.cell? ⟨b, off + k * 4 + 3, none⟩ = some (.pointer (some ⟨rb, ro, none⟩)) ∧ RouteAt w rb ro (rAt (cs.map fun c => c.k.r) k) := by
  obtain ⟨h0, h1, h2, h3⟩ := hrow k h
  obtain ⟨_, hr, _⟩ := hrt _ (cAt_mem h)
  obtain ⟨rb, ro, hr1, _, hr2⟩ := hr (hput _ (cAt_mem h))
  have hk : Keep Nowhere w wr := Keep.below hB
  rw [hr1] at h3
  refine ⟨_, _, rb, ro, ?_, hk _ _ (fun h => h) h1, hk _ _ (fun h => h) h2, hk _ _ (fun h => h) h3, ?_⟩
  · rw [← cAt_map]; exact hk _ _ (fun h => h) h0
  · rw [← cAt_map]; exact hr2

/-- a route's texts' addresses, as 'fields' hands them over -/
theorem index_tx (b o j : Nat) (h : j < 14) (w : World) : (Instr.index 104 (.agg #[.pointer (some ⟨b, o, none⟩), .pointer (some ⟨b, o + 1, none⟩), .pointer (some ⟨b, o + 2, none⟩), .pointer (some ⟨b, o + 3, none⟩), .pointer (some ⟨b, o + 4, none⟩), .pointer (some ⟨b, o + 5, none⟩), .pointer (some ⟨b, o + 6, none⟩), .pointer (some ⟨b, o + 9, none⟩), .pointer (some ⟨b, o + 12, none⟩), .pointer (some ⟨b, o + 13, none⟩), .pointer (some ⟨b, o + 14, none⟩), .pointer (some ⟨b, o + 15, none⟩), .pointer (some ⟨b, o + 16, none⟩), .pointer (some ⟨b, o + 17, none⟩)]) (.int .i64 (j : Int))).run Try.prog w = .ok (.pointer (some ⟨b, o + tc j, none⟩)) w := by
  have hu := run_underlying (P := Try.prog) Try.underlying104
  rcases (by omega : j = 0 ∨ j = 1 ∨ j = 2 ∨ j = 3 ∨ j = 4 ∨ j = 5 ∨ j = 6 ∨ j = 7 ∨ j = 8 ∨ j = 9 ∨ j = 10 ∨ j = 11 ∨ j = 12 ∨ j = 13) with rfl | rfl | rfl | rfl | rfl | rfl | rfl | rfl | rfl | rfl | rfl | rfl | rfl | rfl
  all_goals simp [Instr.index, asIntOf, hu, go_sem, txCell, tc]
theorem index_nm (b o j : Nat) (h : j < 4) (w : World) : (Instr.index 106 (.agg #[.pointer (some ⟨b, o + 7, none⟩), .pointer (some ⟨b, o + 8, none⟩), .pointer (some ⟨b, o + 10, none⟩), .pointer (some ⟨b, o + 11, none⟩)]) (.int .i64 (j : Int))).run Try.prog w = .ok (.pointer (some ⟨b, o + nc j, none⟩)) w := by
  have hu := run_underlying (P := Try.prog) Try.underlying106
  rcases (by omega : j = 0 ∨ j = 1 ∨ j = 2 ∨ j = 3) with rfl | rfl | rfl | rfl
  all_goals simp [Instr.index, asIntOf, hu, go_sem, nmCell, nc]
theorem fields_lit (b o : Nat) (w : World) : Calls Try.prog 54 #[.pointer (some ⟨b, o, none⟩)] w fun x w' => x = .returned (.tuple #[
    .agg #[.pointer (some ⟨b, o, none⟩), .pointer (some ⟨b, o + 1, none⟩), .pointer (some ⟨b, o + 2, none⟩), .pointer (some ⟨b, o + 3, none⟩), .pointer (some ⟨b, o + 4, none⟩), .pointer (some ⟨b, o + 5, none⟩), .pointer (some ⟨b, o + 6, none⟩), .pointer (some ⟨b, o + 9, none⟩), .pointer (some ⟨b, o + 12, none⟩), .pointer (some ⟨b, o + 13, none⟩), .pointer (some ⟨b, o + 14, none⟩), .pointer (some ⟨b, o + 15, none⟩), .pointer (some ⟨b, o + 16, none⟩), .pointer (some ⟨b, o + 17, none⟩)],
    .agg #[.pointer (some ⟨b, o + 7, none⟩), .pointer (some ⟨b, o + 8, none⟩), .pointer (some ⟨b, o + 10, none⟩), .pointer (some ⟨b, o + 11, none⟩)]]) ∧ Below w.heap.size w w' := fields_any b o w

theorem Try.info93 : (Try.prog.info? 93).map (fun i => (i.zero, i.size, i.bytes)) = some (some (.agg #[.int .u64 0, .int .i64 0, .int .i64 0, .int .i64 0, .int .i64 0, .int .i64 0, .int .i64 0, .int .i64 0, .int .i64 0, .int .i64 0, .int .i64 0, .int .i64 0, .int .i64 0, .int .i64 0, .int .i64 0, .int .i64 0, .int .i64 0, .int .i64 0, .int .i64 0]), 19, 152) := by kernel_rfl
theorem mkRow {t e : TypeId} {z : Value} {size bytes : Nat} (hu : Try.prog.underlying t = some (.slice e)) (hinfo : (Try.prog.info? e).map (fun i => (i.zero, i.size, i.bytes)) = some (some z, size, bytes)) (l c : Nat) (hlc : l ≤ c) (hc : c ≤ 1048576) (hb : bytes ≤ 1048576) (w : World) :
    (Instr.makeSlice t (.int .i64 (l : Int)) (.int .i64 (c : Int))).run Try.prog w = .ok (.slice (some ⟨w.heap.size, 0, none⟩) l c) (w.alloc (.cells (madeCells z.cells (c * size)) e)) := by
  obtain ⟨i, hi, hz0, hz1, hz2⟩ := info_parts hinfo
  have hm : bytes * c ≤ 1048576 * 1048576 := Nat.mul_le_mul hb hc
  have := run_make (P := Try.prog) w t e i _ hu hi hz0 .i64 .i64 l c (by omega) (by omega) (by rw [hz2, ← Int.natCast_mul]; omega) (by omega)
  rw [Int.toNat_natCast, Int.toNat_natCast, hz1] at this
  exact this
theorem mk80 (n : Nat) (h : n ≤ 16384) : ∃ arr : Array Value, arr.size = n * 19 ∧ ∀ w, (Instr.makeSlice 80 (.int .i64 (n : Int)) (.int .i64 (n : Int))).run Try.prog w = .ok (.slice (some ⟨w.heap.size, 0, none⟩) n n) (w.alloc (.cells arr 93)) :=
  ⟨_, size_madeCells _ _, fun w => mkRow Try.underlying80 Try.info93 n n (Nat.le_refl _) (by omega) (by decide) w⟩

theorem Used.keep {B b : Nat} {bs : List Value} {w w' : World} (h : Used B b bs w) (hk : ∀ (k : Nat) c t f, w.heap[k]? = some (Obj.cells c t f) → (t = 5 ∨ t = 112) → w'.heap[k]? = some (Obj.cells c t f)) : Used B b bs w' := by
  obtain ⟨h1, v, h2, h3, h4⟩ := h
  refine ⟨h1, v, hk _ _ _ _ h2 (.inr rfl), ⟨h3.1, ?_⟩, h4⟩
  rcases h3.2 with h5 | ⟨g, cap, cur, h5, h6, h7, h8⟩
  · exact .inl h5
  · exact .inr ⟨g, cap, cur, h5, h6, hk _ _ _ _ h7 (.inl rfl), h8⟩
theorem heap_lt {w : World} {k : Nat} {o : Obj} (h : w.heap[k]? = some o) : k < w.heap.size := (Array.getElem?_eq_some_iff.1 h).1
theorem Used.below {B b : Nat} {bs : List Value} {w w' : World} (h : Used B b bs w) (hb : Below w.heap.size w w') : Used B b bs w' := h.keep fun k _ _ _ hk _ => (hb.block k (heap_lt hk)).trans hk
theorem Used.alloc {B b : Nat} {bs : List Value} {w : World} (h : Used B b bs w) (o : Obj) : Used B b bs (w.alloc o) := h.below ((Below.refl _ _).alloc (Nat.le_refl _) _)
theorem Used.set {B b e : Nat} {bs : List Value} {w : World} {arr : Array Value} {f : Nat × Nat} (h : Used B b bs w) (he : w.heap[e]? = some (.cells arr 93 f)) (o : Nat) (v : Value) : Used B b bs (w.setCell ⟨e, o, none⟩ v) := h.keep fun k c t f' hk ht => by
  rw [Below.heap_setCell _ _ _ _ (fun e' => ?_)]
  · exact hk
  · simp at e'
    rw [e', he] at hk
    simp at hk
    rcases ht with rfl | rfl <;> simp at hk

theorem Used.ne {B b d : Nat} {bs : List Value} {w : World} {c : Array Value} {t : TypeId} {f : Nat × Nat} (h : Used B b bs w) (hd : w.heap[d]? = some (.cells c t f)) (ht : t ≠ 112) : d ≠ b := by
  obtain ⟨_, v, h2, _⟩ := h
  rintro rfl
  rw [hd] at h2
  simp at h2
  exact ht h2.2.1
theorem builder_string (B b : Nat) (l : List UInt8) (w : World) (h : Used B b (Lib.byteCells l) w) (hBw : B ≤ w.heap.size) :
    Calls Try.prog 58 #[.pointer (some ⟨b, 0, none⟩)] w fun e w' => e = .returned (.string ⟨l.toArray⟩) ∧ Below B w w' ∧ Lib.OthersKept 5 (some b) w w' :=
  (Any.Builder_String_any_k Try.lays169 Try.Builder_Extra_169 B b l w (Lib.IsBuilderF.of (.inr h)) hBw).mono fun _ _ h => ⟨h.1, h.2.2.1, h.2.2.2⟩
/-- the entries' row, its first m cells written -/
structure Ents (rs : List R) (e n m : Nat) (w : World) : Prop where
  row : ∃ arr, w.heap[e]? = some (.cells arr 93 (0, 0)) ∧ arr.size = n * 19 ∧ ∀ o, o < m → arr[o]? = some (entCell rs o)
theorem Ents.keep {rs : List R} {e n m : Nat} {w w' : World} (h : Ents rs e n m w) (hk : ∀ c f, w.heap[e]? = some (Obj.cells c 93 f) → w'.heap[e]? = some (Obj.cells c 93 f)) : Ents rs e n m w' := by
  obtain ⟨arr, h1, h2⟩ := h.row
  exact ⟨arr, hk _ _ h1, h2⟩
theorem Ents.alloc {rs : List R} {e n m : Nat} {w : World} (h : Ents rs e n m w) (o : Obj) : Ents rs e n m (w.alloc o) := h.keep fun _ _ hk => (Below.heap_alloc _ _ _ (heap_lt hk)).trans hk
theorem Ents.below {rs : List R} {e n m : Nat} {w w' : World} (h : Ents rs e n m w) (hb : Below w.heap.size w w') : Ents rs e n m w' := h.keep fun _ _ hk => (hb.block e (heap_lt hk)).trans hk
theorem Ents.others {rs : List R} {e n m b : Nat} {w w' : World} (h : Ents rs e n m w) (hb : Lib.OthersKept 5 (some b) w w') (hne : e ≠ b) : Ents rs e n m w' := h.keep fun _ _ hk => hb _ _ hk (by simpa using hne) (fun c f => by simp)
theorem Ents.drew {rs : List R} {e n m : Nat} {w : World} (h : Ents rs e n m w) : Ents rs e n m w.drew := ⟨h.row⟩
theorem Ents.cell {rs : List R} {e n m : Nat} {w : World} (h : Ents rs e n m w) {o : Nat} (ho : o < n * 19) : ∃ v, w.cell? ⟨e, o, none⟩ = some v := by
  obtain ⟨arr, h1, h2, _⟩ := h.row
  exact ⟨arr[o]'(by omega), by rw [Lib.cell_of_heap h1]; simp [show o < arr.size by omega]⟩
theorem Ents.frozen {rs : List R} {e n m : Nat} {w : World} (h : Ents rs e n m w) (o : Nat) : w.frozen? ⟨e, o, none⟩ = false := by
  obtain ⟨arr, h1, _⟩ := h.row
  exact Lib.frozen_of_heap h1 o
theorem Ents.put {rs : List R} {e n m : Nat} {w : World} (h : Ents rs e n m w) (hm : m < n * 19) {v : Value} (hv : v = entCell rs m) : Ents rs e n (m + 1) (w.setCell ⟨e, m, none⟩ v) := by
  obtain ⟨arr, h1, h2, h3⟩ := h.row
  refine ⟨arr.setIfInBounds m v, heap_setCell_same w e m arr 93 v h1, by simpa using h2, fun o ho => ?_⟩
  rw [Array.getElem?_setIfInBounds]
  by_cases e1 : m = o
  · subst e1
    rw [if_pos rfl, if_pos (by omega), hv]
  · rw [if_neg e1]
    exact h3 o (by omega)
theorem Ents.usedSet {rs : List R} {e n m B b : Nat} {bs : List Value} {w : World} (h : Ents rs e n m w) (hU : Used B b bs w) (o : Nat) (v : Value) : Used B b bs (w.setCell ⟨e, o, none⟩ v) := by
  obtain ⟨arr, h1, _⟩ := h.row
  exact hU.set h1 o v
theorem Ents.ne {rs : List R} {e n m B b : Nat} {bs : List Value} {w : World} (h : Ents rs e n m w) (hU : Used B b bs w) : e ≠ b := by
  obtain ⟨arr, h1, _⟩ := h.row
  obtain ⟨_, v, h2, _⟩ := hU
  rintro rfl
  rw [h1] at h2
  simp at h2
theorem ent0 (rs : List R) (q : Nat) : entCell rs (q * 19) = .int .u64 (rAt rs q).hash := by
  unfold entCell
  rw [if_pos (by omega), show q * 19 / 19 = q by omega]
theorem ent1 (rs : List R) (q j : Nat) (hj : j < 14) : entCell rs (q * 19 + 1 + j) = .int .i64 ((flat rs (14 * q + j + 1)).length : Nat) := by
  unfold entCell
  rw [if_neg (by omega), if_pos (by omega), show (q * 19 + 1 + j) / 19 = q by omega, show 14 * q + (q * 19 + 1 + j) % 19 = 14 * q + j + 1 by omega]
theorem ent2 (rs : List R) (q j : Nat) (hj : j < 4) : entCell rs (q * 19 + 15 + j) = .int .i64 ((rAt rs q).nm j) := by
  unfold entCell
  rw [if_neg (by omega), if_neg (by omega), show (q * 19 + 15 + j) / 19 = q by omega, show (q * 19 + 15 + j) % 19 - 15 = j by omega]

end Go.Proofs.Qxb6603644a
