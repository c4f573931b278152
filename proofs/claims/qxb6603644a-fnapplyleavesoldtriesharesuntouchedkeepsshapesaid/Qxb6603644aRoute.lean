/-
  THE WALKS of (*node).start (75) and (*node).route (59): a leaf's route is read back.
-/
import Derived.Test.Qxb6603644aBuild
import Derived.Deep.MidRow
namespace Go.Proofs.Qxb6603644a
open Go.RowKit Go.Shelf

def routeCells (r : R) : List Value := [.string (r.tx 0), .string (r.tx 1), .string (r.tx 2), .string (r.tx 3), .string (r.tx 4), .string (r.tx 5), .string (r.tx 6), .int .i64 (r.nm 0), .int .i64 (r.nm 1), .string (r.tx 7), .int .i64 (r.nm 2), .int .i64 (r.nm 3), .string (r.tx 8), .string (r.tx 9), .string (r.tx 10), .string (r.tx 11), .string (r.tx 12), .string (r.tx 13)]
def aggR (r : R) : Value := .agg (routeCells r).toArray

theorem flat_take (rs : List R) (q : Nat) : ∀ N, q ≤ N → (flat rs N).take (flat rs q).length = flat rs q
  | 0, h => by simp [show q = 0 by omega, flat]
  | N + 1, h => by
    by_cases e : q = N + 1
    · subst e; simp
    · have ih := flat_take rs q N (by omega)
      have hm := flat_mono rs (show q ≤ N by omega)
      simp only [flat]
      rw [List.take_append_of_le_length hm, ih]
theorem flat_seg (rs : List R) (q N : Nat) (h : q < N) : ((flat rs N).take (flat rs (q + 1)).length).drop (flat rs q).length = (T rs q).data.toList := by
  rw [flat_take rs (q + 1) N h]
  simp only [flat]
  rw [List.drop_append_of_le_length (Nat.le_refl _)]
  simp
theorem flat_extract (rs : List R) (q N : Nat) (h : q < N) : (⟨(flat rs N).toArray⟩ : ByteArray).extract (flat rs q).length (flat rs (q + 1)).length = T rs q := by
  have h1 := flat_seg rs q N h
  apply ByteArray.ext
  rw [ByteArray.data_extract]
  apply Array.ext'
  rw [Array.toList_extract]
  simp only [List.extract_eq_take_drop]
  rw [← h1, List.drop_take]

set_option maxRecDepth 10000 in
theorem start_any (N : Nat → Prop) (g i : Nat) (rs : List R) (w : World) (h : LeafAt w N g rs) (hi : i < rs.length) (hn : rs.length ≤ 16384) :
    Calls Try.prog 75 #[.pointer (some ⟨g, 0, none⟩), .int .i64 (i : Nat)] w fun x w' => x = .returned (.int .i64 ((flat rs (14 * i)).length : Nat)) ∧ w' = w := by
  obtain ⟨e, _, he1, he2⟩ := h.ents
  obtain ⟨n, hnn⟩ : ∃ n, rs.length = n := ⟨_, rfl⟩
  rw [hnn] at he1 hi hn he2
  by_cases h0 : i = 0
  · subst h0
    have HE : Hid _ := he2
    clear he2 h hnn
    go_enter Try.func75, Try.ntmps75
    go_wp2
    go_ret
    exact ⟨rfl, rfl⟩
  · have hc : w.cell? ⟨e, (i - 1) * 19 + 14, none⟩ = some (.int .i64 ((flat rs (14 * i)).length : Nat)) := by
      have h1 := he2 ((i - 1) * 19 + 1 + 13) (by omega)
      rw [ent1 rs (i - 1) 13 (by omega), show 14 * (i - 1) + 13 + 1 = 14 * i by omega] at h1
      exact h1
    clear he2 h hnn
    obtain ⟨j, rfl⟩ : ∃ j, i = j + 1 := ⟨i - 1, by omega⟩
    simp only [Nat.add_sub_cancel] at hc
    obtain ⟨L, hL⟩ : ∃ L, (flat rs (14 * (j + 1))).length = L := ⟨_, rfl⟩
    rw [hL] at hc ⊢
    clear hL
    go_enter Try.func75, Try.ntmps75
    go_wp2
    go_ret
    exact ⟨rfl, rfl⟩

theorem tc_inj : ∀ i, i < 14 → ∀ j, j < 14 → tc i = tc j → i = j := by decide
theorem nc_inj : ∀ i, i < 4 → ∀ j, j < 4 → nc i = nc j → i = j := by decide
theorem tc_nc : ∀ i, i < 14 → ∀ j, j < 4 → tc i ≠ nc j := by decide
theorem tc_lt : ∀ i, i < 14 → tc i < 18 := by decide
theorem nc_lt : ∀ i, i < 4 → nc i < 18 := by decide

/-- a route that is being filled: its first a texts, its first c numbers -/
structure RU (w : World) (B a c : Nat) (r : R) (W : World) : Prop where
  tx : ∀ j, j < a → W.cell? ⟨B, tc j, none⟩ = some (.string (r.tx j))
  nm : ∀ j, j < c → W.cell? ⟨B, nc j, none⟩ = some (.int .i64 (r.nm j))
  all : ∀ o, o < 18 → ∃ v, W.cell? ⟨B, o, none⟩ = some v
  fz : ∀ o, W.frozen? ⟨B, o, none⟩ = false
  below : Below w.heap.size w W
theorem RU.putT {w : World} {B a : Nat} {r : R} {W : World} (h : RU w B a 0 r W) (hB : w.heap.size ≤ B) (ha : a < 14) : RU w B (a + 1) 0 r (W.setCell ⟨B, tc a, none⟩ (.string (r.tx a))) := by
  obtain ⟨v, hv⟩ := h.all (tc a) (tc_lt a ha)
  have hs := World.cell?_setCell_same' W ⟨B, tc a, none⟩ (.string (r.tx a)) (by rw [hv]; rfl)
  refine ⟨fun j hj => ?_, fun j hj => absurd hj (by omega), fun o ho => ?_, fun o => by rw [World.frozen?_setCell]; exact h.fz o, h.below.setCell (p := ⟨B, tc a, none⟩) hB _⟩
  · by_cases e : j = a
    · subst e; exact hs
    · rw [World.cell?_setCell_other _ _ _ _ (fun hh => e (tc_inj j (by omega) a ha (by simpa using hh.symm)))]
      exact h.tx j (by omega)
  · by_cases e : o = tc a
    · subst e; exact ⟨_, hs⟩
    · obtain ⟨u, hu⟩ := h.all o ho
      exact ⟨u, by rw [World.cell?_setCell_other _ _ _ _ (fun hh => e (by simpa using hh.symm))]; exact hu⟩
theorem RU.putN {w : World} {B c : Nat} {r : R} {W : World} (h : RU w B 14 c r W) (hB : w.heap.size ≤ B) (ha : c < 4) : RU w B 14 (c + 1) r (W.setCell ⟨B, nc c, none⟩ (.int .i64 (r.nm c))) := by
  obtain ⟨v, hv⟩ := h.all (nc c) (nc_lt c ha)
  have hs := World.cell?_setCell_same' W ⟨B, nc c, none⟩ (.int .i64 (r.nm c)) (by rw [hv]; rfl)
  refine ⟨fun j hj => ?_, fun j hj => ?_, fun o ho => ?_, fun o => by rw [World.frozen?_setCell]; exact h.fz o, h.below.setCell (p := ⟨B, nc c, none⟩) hB _⟩
  · rw [World.cell?_setCell_other _ _ _ _ (fun hh => tc_nc j hj c ha (by simpa using hh.symm))]
    exact h.tx j hj
  · by_cases e : j = c
    · subst e; exact hs
    · rw [World.cell?_setCell_other _ _ _ _ (fun hh => e (nc_inj j (by omega) c ha (by simpa using hh.symm)))]
      exact h.nm j (by omega)
  · by_cases e : o = nc c
    · subst e; exact ⟨_, hs⟩
    · obtain ⟨u, hu⟩ := h.all o ho
      exact ⟨u, by rw [World.cell?_setCell_other _ _ _ _ (fun hh => e (by simpa using hh.symm))]; exact hu⟩
theorem RU.drew {w : World} {B a c : Nat} {r : R} {W : World} (h : RU w B a c r W) : RU w B a c r W.drew := ⟨h.tx, h.nm, h.all, h.fz, h.below.drew⟩

theorem results_cell {fn : Func} {t : Tmp} {ty : TypeId} {tmps : Array Value} {P : Program} {w : World} {ad : Addr} {v : Value} (h : fn.results = #[.cell t ty]) (ha : tmps.getD t undef = .pointer (some ad)) (hl : (loadVar ty ad).run P w = .ok v w) : (results fn tmps).run P w = .ok v w := by
  have h2 : (asAddr (tmps[t]?.getD undef)).run P w = .ok ad w := by rw [← Array.getD_eq_getD_getElem?, ha]; rfl
  unfold results
  rw [h]
  simp [h2, hl]
theorem Try.size53 : (Try.prog.info? 53).map (·.size) = some 18 := by kernel_rfl
theorem route_one (r : R) : ∀ v ∈ routeCells r, v.oneCell' = true := by
  intro v hv
  simp only [routeCells, List.mem_cons, List.not_mem_nil, or_false] at hv
  rcases hv with rfl | rfl | rfl | rfl | rfl | rfl | rfl | rfl | rfl | rfl | rfl | rfl | rfl | rfl | rfl | rfl | rfl | rfl <;> rfl
theorem Below.setCells' {B b : Nat} {w W : World} (h : Below B w W) (hb : B ≤ b) (o : Nat) (vs : List Value) : Below B w (W.setCells b o vs) := by
  induction vs generalizing o W with
  | nil => exact h
  | cons v r ih => exact ih (h.setCell (p := ⟨b, o, none⟩) hb v) (o + 1)
theorem range_of {w : World} {b o : Nat} {r : R} (ht : ∀ j, j < 14 → w.cell? ⟨b, o + tc j, none⟩ = some (.string (r.tx j))) (hn : ∀ j, j < 4 → w.cell? ⟨b, o + nc j, none⟩ = some (.int .i64 (r.nm j))) : w.rangeAt b o (routeCells r) := by
  intro j v hv
  have hj : j < 18 := (List.getElem?_eq_some_iff.1 hv).1
  rcases (by omega : j = 0 ∨ j = 1 ∨ j = 2 ∨ j = 3 ∨ j = 4 ∨ j = 5 ∨ j = 6 ∨ j = 7 ∨ j = 8 ∨ j = 9 ∨ j = 10 ∨ j = 11 ∨ j = 12 ∨ j = 13 ∨ j = 14 ∨ j = 15 ∨ j = 16 ∨ j = 17) with rfl | rfl | rfl | rfl | rfl | rfl | rfl | rfl | rfl | rfl | rfl | rfl | rfl | rfl | rfl | rfl | rfl | rfl <;> (obtain rfl := Option.some.inj hv)
  · exact ht 0 (by decide)
  · exact ht 1 (by decide)
  · exact ht 2 (by decide)
  · exact ht 3 (by decide)
  · exact ht 4 (by decide)
  · exact ht 5 (by decide)
  · exact ht 6 (by decide)
  · exact hn 0 (by decide)
  · exact hn 1 (by decide)
  · exact ht 7 (by decide)
  · exact hn 2 (by decide)
  · exact hn 3 (by decide)
  · exact ht 8 (by decide)
  · exact ht 9 (by decide)
  · exact ht 10 (by decide)
  · exact ht 11 (by decide)
  · exact ht 12 (by decide)
  · exact ht 13 (by decide)
theorem of_range {w : World} {b o : Nat} {r : R} (h : w.rangeAt b o (routeCells r)) : RouteAt w b o r := by
  refine ⟨fun j hj => ?_, fun j hj => ?_⟩
  · rcases (by omega : j = 0 ∨ j = 1 ∨ j = 2 ∨ j = 3 ∨ j = 4 ∨ j = 5 ∨ j = 6 ∨ j = 7 ∨ j = 8 ∨ j = 9 ∨ j = 10 ∨ j = 11 ∨ j = 12 ∨ j = 13) with rfl | rfl | rfl | rfl | rfl | rfl | rfl | rfl | rfl | rfl | rfl | rfl | rfl | rfl
    all_goals exact h _ _ rfl
  · rcases (by omega : j = 0 ∨ j = 1 ∨ j = 2 ∨ j = 3) with rfl | rfl | rfl | rfl
    all_goals exact h _ _ rfl
theorem RU.range {w : World} {B : Nat} {r : R} {W : World} (h : RU w B 14 4 r W) : W.rangeAt B 0 (routeCells r) :=
  range_of (fun j hj => by rw [Nat.zero_add]; exact h.tx j hj) (fun j hj => by rw [Nat.zero_add]; exact h.nm j hj)

set_option maxRecDepth 10000 in
set_option maxHeartbeats 1000000 in
theorem route_any (N : Nat → Prop) (g i : Nat) (rs : List R) (w : World) (h : LeafAt w N g rs) (hi : i < rs.length) (hn : rs.length ≤ 16384) :
    Calls Try.prog 59 #[.pointer (some ⟨g, 0, none⟩), .int .i64 (i : Nat)] w fun x w' => x = .returned (aggR (rAt rs i)) ∧ Below w.heap.size w w' := by
  obtain ⟨e, _, he1, he2⟩ := h.ents
  have hgl : g < w.heap.size := cell_lt h.ch
  have hel : e < w.heap.size := cell_lt (he2 0 (by omega))
  have HL : Hid (LeafAt w N g rs) := h
  have HE : Hid (∀ o, o < 19 * rs.length → w.cell? ⟨e, o, none⟩ = some (entCell rs o)) := he2
  have htx := h.txt
  obtain ⟨txt, htxt⟩ : ∃ txt : ByteArray, (⟨(flat rs (14 * rs.length)).toArray⟩ : ByteArray) = txt := ⟨_, rfl⟩
  rw [htxt] at htx
  have HTXT : Hid ((⟨(flat rs (14 * rs.length)).toArray⟩ : ByteArray) = txt) := htxt
  obtain ⟨n, hnn⟩ : ∃ n, rs.length = n := ⟨_, rfl⟩
  rw [hnn] at he1 hi hn
  have HNN : Hid (rs.length = n) := hnn
  clear h he2 htxt hnn
  go_enter Try.func59, Try.ntmps59
  go_upto_region 3 with (go_at_call 54; refine (fields_lit (w.heap.size + 1) 0 _).mono ?_; rintro x1 w1 ⟨rfl, hb0⟩)
  have hb1 : Below w.heap.size w w1 := (((Below.refl w.heap.size w).alloc (Nat.le_refl _) _).alloc (by simp) _).trans (hb0.mono (by simp; omega))
  have hz : w1.heap[w.heap.size + 1]? = some (.cells #[.string ⟨#[]⟩, .string ⟨#[]⟩, .string ⟨#[]⟩, .string ⟨#[]⟩, .string ⟨#[]⟩, .string ⟨#[]⟩, .string ⟨#[]⟩, .int .i64 0, .int .i64 0, .string ⟨#[]⟩, .int .i64 0, .int .i64 0, .string ⟨#[]⟩, .string ⟨#[]⟩, .string ⟨#[]⟩, .string ⟨#[]⟩, .string ⟨#[]⟩, .string ⟨#[]⟩] 53) := by
    rw [hb0.block (w.heap.size + 1) (by simp)]
    have := heap_alloc_new (w.alloc (.cells #[.string ⟨#[]⟩, .string ⟨#[]⟩, .string ⟨#[]⟩, .string ⟨#[]⟩, .string ⟨#[]⟩, .string ⟨#[]⟩, .string ⟨#[]⟩, .int .i64 0, .int .i64 0, .string ⟨#[]⟩, .int .i64 0, .int .i64 0, .string ⟨#[]⟩, .string ⟨#[]⟩, .string ⟨#[]⟩, .string ⟨#[]⟩, .string ⟨#[]⟩, .string ⟨#[]⟩] 53)) (.cells #[.string ⟨#[]⟩, .string ⟨#[]⟩, .string ⟨#[]⟩, .string ⟨#[]⟩, .string ⟨#[]⟩, .string ⟨#[]⟩, .string ⟨#[]⟩, .int .i64 0, .int .i64 0, .string ⟨#[]⟩, .int .i64 0, .int .i64 0, .string ⟨#[]⟩, .string ⟨#[]⟩, .string ⟨#[]⟩, .string ⟨#[]⟩, .string ⟨#[]⟩, .string ⟨#[]⟩] 53)
    rwa [World.size_alloc] at this
  have hs1 : w.heap.size + 2 ≤ w1.heap.size := by have := hb0.size; simpa using this
  have hz4 : w1.heap[w.heap.size]? = some (.cells #[.string ⟨#[]⟩, .string ⟨#[]⟩, .string ⟨#[]⟩, .string ⟨#[]⟩, .string ⟨#[]⟩, .string ⟨#[]⟩, .string ⟨#[]⟩, .int .i64 0, .int .i64 0, .string ⟨#[]⟩, .int .i64 0, .int .i64 0, .string ⟨#[]⟩, .string ⟨#[]⟩, .string ⟨#[]⟩, .string ⟨#[]⟩, .string ⟨#[]⟩, .string ⟨#[]⟩] 53) := by
    rw [hb0.block w.heap.size (by simp; omega), Below.heap_alloc _ _ _ (by simp)]
    exact heap_alloc_new _ _
  clear hb0
  have hL1 : LeafAt ((w1.alloc (.cells #[.pointer (some ⟨w.heap.size + 1, 0, none⟩), .pointer (some ⟨w.heap.size + 1, 1, none⟩), .pointer (some ⟨w.heap.size + 1, 2, none⟩), .pointer (some ⟨w.heap.size + 1, 3, none⟩), .pointer (some ⟨w.heap.size + 1, 4, none⟩), .pointer (some ⟨w.heap.size + 1, 5, none⟩), .pointer (some ⟨w.heap.size + 1, 6, none⟩), .pointer (some ⟨w.heap.size + 1, 9, none⟩), .pointer (some ⟨w.heap.size + 1, 12, none⟩), .pointer (some ⟨w.heap.size + 1, 13, none⟩), .pointer (some ⟨w.heap.size + 1, 14, none⟩), .pointer (some ⟨w.heap.size + 1, 15, none⟩), .pointer (some ⟨w.heap.size + 1, 16, none⟩), .pointer (some ⟨w.heap.size + 1, 17, none⟩)] 104)).alloc (.cells #[.pointer (some ⟨w.heap.size + 1, 7, none⟩), .pointer (some ⟨w.heap.size + 1, 8, none⟩), .pointer (some ⟨w.heap.size + 1, 10, none⟩), .pointer (some ⟨w.heap.size + 1, 11, none⟩)] 106)) N g rs := (((HL.out.keep (Keep.below (X := Nowhere) hb1) (fun _ h => h.elim))).keep (keep_new _ _) (fun _ h => h.elim)).keep (keep_new _ _) (fun _ h => h.elim)
  have HL1 : Hid (LeafAt ((w1.alloc (.cells #[.pointer (some ⟨w.heap.size + 1, 0, none⟩), .pointer (some ⟨w.heap.size + 1, 1, none⟩), .pointer (some ⟨w.heap.size + 1, 2, none⟩), .pointer (some ⟨w.heap.size + 1, 3, none⟩), .pointer (some ⟨w.heap.size + 1, 4, none⟩), .pointer (some ⟨w.heap.size + 1, 5, none⟩), .pointer (some ⟨w.heap.size + 1, 6, none⟩), .pointer (some ⟨w.heap.size + 1, 9, none⟩), .pointer (some ⟨w.heap.size + 1, 12, none⟩), .pointer (some ⟨w.heap.size + 1, 13, none⟩), .pointer (some ⟨w.heap.size + 1, 14, none⟩), .pointer (some ⟨w.heap.size + 1, 15, none⟩), .pointer (some ⟨w.heap.size + 1, 16, none⟩), .pointer (some ⟨w.heap.size + 1, 17, none⟩)] 104)).alloc (.cells #[.pointer (some ⟨w.heap.size + 1, 7, none⟩), .pointer (some ⟨w.heap.size + 1, 8, none⟩), .pointer (some ⟨w.heap.size + 1, 10, none⟩), .pointer (some ⟨w.heap.size + 1, 11, none⟩)] 106)) N g rs) := hL1
  clear hL1
  have k0 := Keep.below (X := Nowhere) hb1 _ _ (fun h => h) he1
  have hg1 : g < w1.heap.size := by omega
  have he1l : e < w1.heap.size := by omega
  have hRU : RU w (w.heap.size + 1) 0 0 (rAt rs i) ((w1.alloc (.cells #[.pointer (some ⟨w.heap.size + 1, 0, none⟩), .pointer (some ⟨w.heap.size + 1, 1, none⟩), .pointer (some ⟨w.heap.size + 1, 2, none⟩), .pointer (some ⟨w.heap.size + 1, 3, none⟩), .pointer (some ⟨w.heap.size + 1, 4, none⟩), .pointer (some ⟨w.heap.size + 1, 5, none⟩), .pointer (some ⟨w.heap.size + 1, 6, none⟩), .pointer (some ⟨w.heap.size + 1, 9, none⟩), .pointer (some ⟨w.heap.size + 1, 12, none⟩), .pointer (some ⟨w.heap.size + 1, 13, none⟩), .pointer (some ⟨w.heap.size + 1, 14, none⟩), .pointer (some ⟨w.heap.size + 1, 15, none⟩), .pointer (some ⟨w.heap.size + 1, 16, none⟩), .pointer (some ⟨w.heap.size + 1, 17, none⟩)] 104)).alloc (.cells #[.pointer (some ⟨w.heap.size + 1, 7, none⟩), .pointer (some ⟨w.heap.size + 1, 8, none⟩), .pointer (some ⟨w.heap.size + 1, 10, none⟩), .pointer (some ⟨w.heap.size + 1, 11, none⟩)] 106)) := by
    have hk : ((w1.alloc (.cells #[.pointer (some ⟨w.heap.size + 1, 0, none⟩), .pointer (some ⟨w.heap.size + 1, 1, none⟩), .pointer (some ⟨w.heap.size + 1, 2, none⟩), .pointer (some ⟨w.heap.size + 1, 3, none⟩), .pointer (some ⟨w.heap.size + 1, 4, none⟩), .pointer (some ⟨w.heap.size + 1, 5, none⟩), .pointer (some ⟨w.heap.size + 1, 6, none⟩), .pointer (some ⟨w.heap.size + 1, 9, none⟩), .pointer (some ⟨w.heap.size + 1, 12, none⟩), .pointer (some ⟨w.heap.size + 1, 13, none⟩), .pointer (some ⟨w.heap.size + 1, 14, none⟩), .pointer (some ⟨w.heap.size + 1, 15, none⟩), .pointer (some ⟨w.heap.size + 1, 16, none⟩), .pointer (some ⟨w.heap.size + 1, 17, none⟩)] 104)).alloc (.cells #[.pointer (some ⟨w.heap.size + 1, 7, none⟩), .pointer (some ⟨w.heap.size + 1, 8, none⟩), .pointer (some ⟨w.heap.size + 1, 10, none⟩), .pointer (some ⟨w.heap.size + 1, 11, none⟩)] 106)).heap[w.heap.size + 1]? = w1.heap[w.heap.size + 1]? := by rw [Below.heap_alloc _ _ _ (by simp; omega), Below.heap_alloc _ _ _ (by omega)]
    rw [hz] at hk
    refine ⟨fun j hj => absurd hj (by omega), fun j hj => absurd hj (by omega), fun o ho => ?_, fun o => Lib.frozen_of_heap hk o, (hb1.alloc (by omega) _).alloc (by simp; omega) _⟩
    rw [Lib.cell_of_heap hk]
    exact ⟨_, Array.getElem?_eq_getElem (by simpa using ho)⟩
  have hRU2 : Hid (((w1.alloc (.cells #[.pointer (some ⟨w.heap.size + 1, 0, none⟩), .pointer (some ⟨w.heap.size + 1, 1, none⟩), .pointer (some ⟨w.heap.size + 1, 2, none⟩), .pointer (some ⟨w.heap.size + 1, 3, none⟩), .pointer (some ⟨w.heap.size + 1, 4, none⟩), .pointer (some ⟨w.heap.size + 1, 5, none⟩), .pointer (some ⟨w.heap.size + 1, 6, none⟩), .pointer (some ⟨w.heap.size + 1, 9, none⟩), .pointer (some ⟨w.heap.size + 1, 12, none⟩), .pointer (some ⟨w.heap.size + 1, 13, none⟩), .pointer (some ⟨w.heap.size + 1, 14, none⟩), .pointer (some ⟨w.heap.size + 1, 15, none⟩), .pointer (some ⟨w.heap.size + 1, 16, none⟩), .pointer (some ⟨w.heap.size + 1, 17, none⟩)] 104)).alloc (.cells #[.pointer (some ⟨w.heap.size + 1, 7, none⟩), .pointer (some ⟨w.heap.size + 1, 8, none⟩), .pointer (some ⟨w.heap.size + 1, 10, none⟩), .pointer (some ⟨w.heap.size + 1, 11, none⟩)] 106)).heap[w1.heap.size + 1]? = some (.cells #[.pointer (some ⟨w.heap.size + 1, 7, none⟩), .pointer (some ⟨w.heap.size + 1, 8, none⟩), .pointer (some ⟨w.heap.size + 1, 10, none⟩), .pointer (some ⟨w.heap.size + 1, 11, none⟩)] 106 (0, 0))) := by
    have := heap_alloc_new (w1.alloc (.cells #[.pointer (some ⟨w.heap.size + 1, 0, none⟩), .pointer (some ⟨w.heap.size + 1, 1, none⟩), .pointer (some ⟨w.heap.size + 1, 2, none⟩), .pointer (some ⟨w.heap.size + 1, 3, none⟩), .pointer (some ⟨w.heap.size + 1, 4, none⟩), .pointer (some ⟨w.heap.size + 1, 5, none⟩), .pointer (some ⟨w.heap.size + 1, 6, none⟩), .pointer (some ⟨w.heap.size + 1, 9, none⟩), .pointer (some ⟨w.heap.size + 1, 12, none⟩), .pointer (some ⟨w.heap.size + 1, 13, none⟩), .pointer (some ⟨w.heap.size + 1, 14, none⟩), .pointer (some ⟨w.heap.size + 1, 15, none⟩), .pointer (some ⟨w.heap.size + 1, 16, none⟩), .pointer (some ⟨w.heap.size + 1, 17, none⟩)] 104)) (.cells #[.pointer (some ⟨w.heap.size + 1, 7, none⟩), .pointer (some ⟨w.heap.size + 1, 8, none⟩), .pointer (some ⟨w.heap.size + 1, 10, none⟩), .pointer (some ⟨w.heap.size + 1, 11, none⟩)] 106)
    rw [World.size_alloc] at this
    exact this
  have hR4 : Hid (((w1.alloc (.cells #[.pointer (some ⟨w.heap.size + 1, 0, none⟩), .pointer (some ⟨w.heap.size + 1, 1, none⟩), .pointer (some ⟨w.heap.size + 1, 2, none⟩), .pointer (some ⟨w.heap.size + 1, 3, none⟩), .pointer (some ⟨w.heap.size + 1, 4, none⟩), .pointer (some ⟨w.heap.size + 1, 5, none⟩), .pointer (some ⟨w.heap.size + 1, 6, none⟩), .pointer (some ⟨w.heap.size + 1, 9, none⟩), .pointer (some ⟨w.heap.size + 1, 12, none⟩), .pointer (some ⟨w.heap.size + 1, 13, none⟩), .pointer (some ⟨w.heap.size + 1, 14, none⟩), .pointer (some ⟨w.heap.size + 1, 15, none⟩), .pointer (some ⟨w.heap.size + 1, 16, none⟩), .pointer (some ⟨w.heap.size + 1, 17, none⟩)] 104)).alloc (.cells #[.pointer (some ⟨w.heap.size + 1, 7, none⟩), .pointer (some ⟨w.heap.size + 1, 8, none⟩), .pointer (some ⟨w.heap.size + 1, 10, none⟩), .pointer (some ⟨w.heap.size + 1, 11, none⟩)] 106)).heap[w.heap.size]? = w1.heap[w.heap.size]?) := by
    show _ = _
    rw [Below.heap_alloc _ _ _ (by simp; omega), Below.heap_alloc _ _ _ (by omega)]
  have HZ4 : Hid (w1.heap[w.heap.size]? = _) := hz4
  clear hz hz4
  go_wp2_with (go_at_call 75; refine (start_any N g i rs _ HL1.out (by rw [HNN.out]; exact hi) (by rw [HNN.out]; exact hn)).mono ?_; rintro x2 w2 ⟨rfl, hw2⟩; subst w2)
  go_loopw [9, 28] (fun st j W => ∃ q L : Nat, q ≤ 14 ∧ j = .int .i64 q ∧ st = .int .i64 L ∧ Hid (L = (flat rs (14 * i + q)).length) ∧ Hid (RU w (w.heap.size + 1) q 0 (rAt rs i) W) ∧ Hid (W.heap[w1.heap.size + 1]? = some (.cells #[.pointer (some ⟨w.heap.size + 1, 7, none⟩), .pointer (some ⟨w.heap.size + 1, 8, none⟩), .pointer (some ⟨w.heap.size + 1, 10, none⟩), .pointer (some ⟨w.heap.size + 1, 11, none⟩)] 106 (0, 0))) ∧ Hid (W.heap[w.heap.size]? = w1.heap[w.heap.size]?)) (fun _ j _ => 14 - (intOf j).toNat)
  case atStart => exact ⟨0, _, Nat.zero_le _, rfl, rfl, rfl, hRU, hRU2, hR4⟩
  case round =>
    clear hRU hRU2 hR4 HL1 k0
    obtain ⟨q, L, hq, rfl, rfl, hL, hU, hD, h4⟩ := hrel
    have hsz := hU.out.below.size
    have kk := fun a v h => Keep.below (X := Nowhere) hU.out.below a v (fun h => h) h
    have hx3 := kk _ _ htx
    have hg2 : g < wr.heap.size := by omega
    by_cases hq2 : q < 14
    · have hX := index_tx (w.heap.size + 1) 0 q hq2
      simp only [Nat.zero_add] at hX
      have hce : wr.cell? ⟨e, i * 19 + 1 + q, none⟩ = some (.int .i64 ((flat rs (14 * i + q + 1)).length : Nat)) := by
        rw [← ent1 rs i q hq2]
        exact kk _ _ (HE.out _ (by rw [HNN.out]; omega))
      obtain ⟨L2, hL2⟩ : ∃ L2, (flat rs (14 * i + q + 1)).length = L2 := ⟨_, rfl⟩
      rw [hL2] at hce
      have h12 : L ≤ L2 := by rw [hL.out, ← hL2]; exact flat_mono rs (by omega)
      have h23 : L2 ≤ txt.size := by
        have := flat_mono rs (show 14 * i + q + 1 ≤ 14 * rs.length by rw [HNN.out]; omega)
        rw [hL2] at this
        rw [← HTXT.out]
        exact this
      have hext : Hid (txt.extract L L2 = (rAt rs i).tx q) := by
        show _ = _
        have h1 := flat_extract rs (14 * i + q) (14 * rs.length) (by rw [HNN.out]; omega)
        rw [HTXT.out, ← hL.out, hL2] at h1
        rw [h1, T, show (14 * i + q) / 14 = i by omega, show (14 * i + q) % 14 = q by omega]
      have hL2' : Hid (L2 = (flat rs (14 * i + (q + 1))).length) := hL2.symm
      obtain ⟨v1, hv1⟩ := hU.out.all (tc q) (tc_lt q hq2)
      have hf1 := hU.out.fz (tc q)
      clear hL2 kk
      go_wp2
      go_region
      have hU2 : Hid (RU w (w.heap.size + 1) (q + 1) 0 (rAt rs i) (wr.setCell ⟨w.heap.size + 1, tc q, none⟩ (.string (txt.extract L L2))).drew) := by
        have := (hU.out.putT (by omega) hq2).drew
        rw [← hext.out] at this
        exact this
      have hne : e ≠ w.heap.size + 1 := by omega
      obtain ⟨w3, hw3⟩ : ∃ w3, w3 = (wr.setCell ⟨w.heap.size + 1, tc q, none⟩ (.string (txt.extract L L2))).drew := ⟨_, rfl⟩
      have hce3 : w3.cell? ⟨e, i * 19 + 1 + q, none⟩ = some (.int .i64 (L2 : Nat)) := by
        rw [hw3]
        show World.cell? (wr.setCell _ _) _ = _
        rw [World.cell?_setCell_other _ _ _ _ (fun hh => hne (by simpa using (congrArg Addr.block hh).symm))]
        exact hce
      have hD3 : Hid (w3.heap[w1.heap.size + 1]? = some (.cells #[.pointer (some ⟨w.heap.size + 1, 7, none⟩), .pointer (some ⟨w.heap.size + 1, 8, none⟩), .pointer (some ⟨w.heap.size + 1, 10, none⟩), .pointer (some ⟨w.heap.size + 1, 11, none⟩)] 106 (0, 0))) := by
        show _ = _
        rw [hw3]
        exact (Below.heap_setCell _ _ _ _ (by show w1.heap.size + 1 ≠ w.heap.size + 1; omega)).trans hD.out
      have h43 : Hid (w3.heap[w.heap.size]? = w1.heap[w.heap.size]?) := by
        show _ = _
        rw [hw3]
        exact (Below.heap_setCell _ _ _ _ (by simp)).trans h4.out
      rw [← hw3] at hU2 ⊢
      clear hw3
      go_wp2
      go_roundw
      case rel => exact ⟨q + 1, L2, hq2, by go_num, rfl, hL2', hU2, hD3, h43⟩
      case measure => simp [intOf]; omega
    · obtain rfl : q = 14 := by omega
      have d0 : wr.cell? ⟨w1.heap.size + 1, 0, none⟩ = some (.pointer (some ⟨w.heap.size + 1, 7, none⟩)) := by rw [Lib.cell_of_heap hD.out]; rfl
      have d1 : wr.cell? ⟨w1.heap.size + 1, 1, none⟩ = some (.pointer (some ⟨w.heap.size + 1, 8, none⟩)) := by rw [Lib.cell_of_heap hD.out]; rfl
      have d2 : wr.cell? ⟨w1.heap.size + 1, 2, none⟩ = some (.pointer (some ⟨w.heap.size + 1, 10, none⟩)) := by rw [Lib.cell_of_heap hD.out]; rfl
      have d3 : wr.cell? ⟨w1.heap.size + 1, 3, none⟩ = some (.pointer (some ⟨w.heap.size + 1, 11, none⟩)) := by rw [Lib.cell_of_heap hD.out]; rfl
      clear kk
      go_wp2
      go_loopw [54] (fun j W => ∃ q : Nat, q ≤ 4 ∧ j = .int .i64 q ∧ Hid (RU w (w.heap.size + 1) 14 q (rAt rs i) W) ∧ Hid (W.heap[w.heap.size]? = w1.heap[w.heap.size]?)) (fun j _ => 4 - (intOf j).toNat)
      case atStart => exact ⟨0, Nat.zero_le _, rfl, hU, h4⟩
      case round =>
        clear hU hD h4 d0 d1 d2 d3 hx3 hsz hg2
        obtain ⟨q, hq, rfl, hU, h4⟩ := hrel
        have hsz := hU.out.below.size
        have kk := fun a v h => Keep.below (X := Nowhere) hU.out.below a v (fun h => h) h
        by_cases hq2 : q < 4
        · have hX := index_nm (w.heap.size + 1) 0 q hq2
          simp only [Nat.zero_add] at hX
          have hce : wr.cell? ⟨e, i * 19 + 15 + q, none⟩ = some (.int .i64 ((rAt rs i).nm q)) := by
            rw [← ent2 rs i q hq2]
            exact kk _ _ (HE.out _ (by rw [HNN.out]; omega))
          obtain ⟨x, hx⟩ : ∃ x, (rAt rs i).nm q = x := ⟨_, rfl⟩
          rw [hx] at hce
          obtain ⟨v1, hv1⟩ := hU.out.all (nc q) (nc_lt q hq2)
          have hf1 := hU.out.fz (nc q)
          have hU2 : Hid (RU w (w.heap.size + 1) 14 (q + 1) (rAt rs i) (wr.setCell ⟨w.heap.size + 1, nc q, none⟩ (.int .i64 x))) := by
            have := hU.out.putN (by omega) hq2
            rw [hx] at this
            exact this
          have h43 : Hid ((wr.setCell ⟨w.heap.size + 1, nc q, none⟩ (.int .i64 x)).heap[w.heap.size]? = w1.heap[w.heap.size]?) := (Below.heap_setCell _ _ _ _ (by simp)).trans h4.out
          clear hx kk
          go_wp2
          go_roundw
          case rel => exact ⟨q + 1, hq2, by go_num, hU2, h43⟩
          case measure => simp [intOf]; omega
        · obtain rfl : q = 4 := by omega
          have hzz := h4.out.trans HZ4.out
          have hrange : wr.rangeAt (w.heap.size + 1) 0 (routeCells (rAt rs i)) := hU.out.range
          have hthere : wr.there w.heap.size 0 (routeCells (rAt rs i)).toArray.size := fun j hj => ⟨by rw [Lib.cell_of_heap hzz]; simp at hj ⊢; exact hj, Lib.frozen_of_heap hzz _⟩
          have HB : Hid (Below w.heap.size w (wr.setCells w.heap.size 0 (routeCells (rAt rs i)))) := Below.setCells' hU.out.below (Nat.le_refl _) _ _
          have hsame : Hid ((wr.setCells w.heap.size 0 (routeCells (rAt rs i))).rangeAt w.heap.size 0 (routeCells (rAt rs i))) := World.rangeAt_setCells_same wr w.heap.size 0 _ (by simpa using hthere)
          clear hzz kk
          go_wp2_with (first | (refine wpList_load_mid rfl 53 _ rfl (w.heap.size + 1) 0 rfl (routeCells (rAt rs i)) _ hrange Try.underlying53 rfl Try.size53 ?_) | (refine wpList_store_mid rfl 53 _ _ rfl w.heap.size 0 (routeCells (rAt rs i)).toArray rfl rfl hthere Try.size53 (all_oneCell_toArray (route_one _)) ?_))
          refine bodyPost_ret (v := aggR (rAt rs i)) ?r rfl ?_
          case r =>
            have := run_loadVar_mid (P := Try.prog) _ w.heap.size 0 53 (routeCells (rAt rs i)) _ hsame.out Try.underlying53 rfl Try.size53
            exact results_cell Try.results59 rfl this
          exact ⟨rfl, HB.out⟩
end Go.Proofs.Qxb6603644a
