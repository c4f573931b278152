/-
  apply (22) on an inner node: towards what comes behind the loop over the runs.
-/
import Derived.Test.Qxb6603644aApp4
namespace Go.Proofs.Qxb6603644a
open Go.RowKit Go.Shelf

def ptrL (T : Nat → Tr) : List Value := (List.range 16).map fun i => .pointer (T i).ptr
theorem ptrL_at (T : Nat → Tr) (i : Nat) (h : i < 16) : (ptrL T)[i]? = some (.pointer (T i).ptr) := by
  unfold ptrL
  rw [List.getElem?_map, List.getElem?_range h]
  rfl
theorem ptrL_len (T : Nat → Tr) : (ptrL T).length = 16 := by simp [ptrL]
theorem ptrL_one (T : Nat → Tr) : ∀ v ∈ ptrL T, v.oneCell' = true := by
  intro v hv
  obtain ⟨i, _, rfl⟩ := List.mem_map.1 hv
  rfl
theorem Try.size87 : (Try.prog.info? 87).map (·.size) = some 16 := by kernel_rfl
theorem ptrL_range {w : World} {h : Nat} {T : Nat → Tr} (hc : ∀ i, i < 16 → w.cell? ⟨h, i, none⟩ = some (.pointer (T i).ptr)) : w.rangeAt h 0 (ptrL T) := by
  intro j v hj
  have hlt : j < 16 := by have := (List.getElem?_eq_some_iff.1 hj).1; rwa [ptrL_len] at this
  rw [ptrL_at T j hlt] at hj
  obtain rfl := Option.some.inj hj
  rw [Nat.zero_add]
  exact hc j hlt
theorem ptrL_lit (T : Nat → Tr) : ptrL T = [.pointer (T 0).ptr, .pointer (T 1).ptr, .pointer (T 2).ptr, .pointer (T 3).ptr, .pointer (T 4).ptr, .pointer (T 5).ptr, .pointer (T 6).ptr, .pointer (T 7).ptr, .pointer (T 8).ptr, .pointer (T 9).ptr, .pointer (T 10).ptr, .pointer (T 11).ptr, .pointer (T 12).ptr, .pointer (T 13).ptr, .pointer (T 14).ptr, .pointer (T 15).ptr] := rfl
theorem index_ptrL (T : Nat → Tr) (j : Nat) (h : j < 16) (w : World) : (Instr.index 87 (.agg (ptrL T).toArray) (.int .i64 (j : Int))).run Try.prog w = .ok (.pointer (T j).ptr) w := by
  have hu := run_underlying (P := Try.prog) Try.underlying87
  rw [ptrL_lit]
  rcases (by omega : j = 0 ∨ j = 1 ∨ j = 2 ∨ j = 3 ∨ j = 4 ∨ j = 5 ∨ j = 6 ∨ j = 7 ∨ j = 8 ∨ j = 9 ∨ j = 10 ∨ j = 11 ∨ j = 12 ∨ j = 13 ∨ j = 14 ∨ j = 15) with rfl | rfl | rfl | rfl | rfl | rfl | rfl | rfl | rfl | rfl | rfl | rfl | rfl | rfl | rfl | rfl
  all_goals simp [Instr.index, asIntOf, hu, go_sem]

/-- a struct or an array is stored; the world behind it under a name -/
theorem wpList_store_named {P : Program} {ops : Array Oper} {rest : List Oper} {op : Oper} {a : Act} {w : World} {Q : Exit → Act → World → Prop} (hgd : op.guard = none) (hdst : op.dst = none) (ty : TypeId) (x y : Operand) (ho : op.op = .store ty x y)
    (b o : Nat) (cells : List Value) (hx : a.eval x = .pointer (some ⟨b, o, none⟩)) (hy : a.eval y = .agg cells.toArray)
    (ht : w.there b o cells.length) (hi : (P.info? ty).map (·.size) = some cells.length) (h1 : ∀ v ∈ cells, v.oneCell' = true)
    (h : ∀ w', Hid (w' = w.setCells b o cells) → wpList P ops Q rest a w') : wpList P ops Q (op :: rest) a w := by
  refine wpList_store_mid hgd ty x y ho b o cells.toArray hx hy (by simpa using ht) (by simpa using hi) (all_oneCell_toArray h1) ?_
  rw [hdst]
  exact h _ rfl

/-- the count of the first k children -/
def psum (T : Nat → Tr) (k : Nat) : Nat := ((List.range k).map fun i => (T i).cnt).sum
theorem psum_succ (T : Nat → Tr) (k : Nat) : psum T (k + 1) = psum T k + (T k).cnt := by simp [psum, List.range_succ]
theorem psum_le (T : Nat → Tr) (B : Nat) (h : ∀ i, i < 16 → (T i).cnt ≤ B) : ∀ k, k ≤ 16 → psum T k ≤ k * B := by
  intro k
  induction k with
  | zero => intro _; simp [psum]
  | succ k ih =>
    intro hk
    have := ih (by omega)
    have := h k (by omega)
    rw [psum_succ, Nat.add_mul]
    omega
theorem cnt_cell {w : World} {N : Nat → Prop} {t : Tr} (h : IsT w N t) : t.ptr = none ∧ t.cnt = 0 ∨ ∃ g, t.ptr = some ⟨g, 0, none⟩ ∧ w.cell? ⟨g, 1, none⟩ = some (.int .i64 (t.cnt : Nat)) := by
  cases t with
  | nil => exact .inl ⟨rfl, rfl⟩
  | leaf g rs => exact .inr ⟨g, rfl, h.cnt⟩
  | inner g ch c => exact .inr ⟨g, rfl, h.2.choose_spec.2.2.1⟩

/-- build of at most 32 changes -/
theorem build_small (d : Nat) (b off n cap : Nat) (cs : List C) (rs : List R) (w : World) (hd : d ≤ 16) (hn : cs.length = n) (h32 : n ≤ 32) (hrs : cs.map (fun c => c.k.r) = rs) (hrow : ChRow w b off cs) (hrt : Rts w b cs) (hput : ∀ c ∈ cs, c.k.put = true) :
    Calls Try.prog 38 #[.slice (some ⟨b, off, none⟩) n cap, .int .i64 (4 * d : Nat)] w fun x w' => ∃ t, x = .returned (.pointer t.ptr) ∧ BldR d rs t ∧ IsT w' (· < w.heap.size) t ∧ Below w.heap.size w w' := by
  by_cases h0 : n = 0
  · subst h0
    obtain rfl : cs = [] := List.length_eq_zero_iff.1 hn
    obtain rfl : rs = [] := hrs.symm
    clear hrs hrow hrt hput
    go_enter Try.func38, Try.ntmps38
    go_wp2
    go_ret
    exact ⟨.nil, rfl, bld_nil d, trivial, (Below.refl _ _).alloc (Nat.le_refl _) _⟩
  · refine (build_leaf b off n cap (4 * d) cs rs w hn (by omega) (by omega) hrs hrow hrt hput (.inl h32) (by omega)).mono ?_
    rintro x w' ⟨g, rfl, hL, hB⟩
    have hne : rs ≠ [] := fun e => by rw [e] at hrs; simp at hrs; rw [hrs] at hn; simp at hn; omega
    have hle : rs.length ≤ 32 := by rw [← hrs, List.length_map]; omega
    refine ⟨.leaf g rs, rfl, ?_, hL, hB⟩
    cases d with
    | zero => exact .inr ⟨hne, g, rfl⟩
    | succ d => exact .inr (.inl ⟨hne, hle, g, rfl⟩)

theorem kids_ap {d : Nat} {ch T : Nat → Tr} {cs : List C} {i : Nat} (h1 : ApR d (ch i) ((upTo cs (4 * (d + 1)) cs.length i).map fun c => c.k) (T i)) : ApR d (ch i) (kInSlot d i (cs.map fun c => c.k)) (T i) := by
  rw [upTo_all] at h1
  have h2 : kInSlot d i (cs.map fun c => c.k) = (cs.filter fun c => slotOf c.hash (4 * (d + 1)) == (i : Int)).map fun c => c.k := by
    rw [kInSlot, List.filter_map]
    rfl
  rw [h2]
  exact h1

theorem kids_good {d : Nat} {P : Int} {g c : Nat} {ch T : Nat → Tr} {w : World} {N : Nat → Prop} {b off n cap : Nat} {cs : List C} (hA : AH (d + 1) P (.inner g ch c) w N b off n cap cs) (hap : ∀ i, i < 16 → ApR d (ch i) (kInSlot d i (cs.map fun c => c.k)) (T i)) :
    ∀ i, i < 16 → Good (T i) d (P * 16 + i) ∧ (T i).cnt ≤ 16384 := by
  intro i hi
  have hg := hA.good
  obtain ⟨d', hd', _, hcc, hgc⟩ := hg
  obtain rfl : d = d' := by omega
  have hsrt : (kInSlot d i (cs.map fun c => c.k)).Pairwise ksl := hA.srt.filter _
  have hpre : ∀ k ∈ kInSlot d i (cs.map fun c => c.k), k.r.hash / 2 ^ (4 * d) = P * 16 + i := fun k hk => by
    obtain ⟨h1, h2⟩ := mem_kInSlot.1 hk
    obtain ⟨c', hc', rfl⟩ := List.mem_map.1 h1
    have h3 := cut16 c'.k.r.hash d
    rw [hA.pre c' hc', h2] at h3
    exact h3
  have hseq : ∀ k ∈ kInSlot d i (cs.map fun c => c.k), 0 ≤ k.seq := fun k hk => by
    obtain ⟨c', hc', rfl⟩ := List.mem_map.1 (mem_kInSlot.1 hk).1
    exact hA.seq c' hc'
  have hsubc : ∀ r, r ∈ (ch i).collect ++ (kInSlot d i (cs.map fun c => c.k)).map K.r → r ∈ (Tr.inner g ch c).collect ++ cs.map (fun c => c.k.r) := by
    intro r hr
    rcases List.mem_append.1 hr with h | h
    · exact List.mem_append_left _ (by simp only [Tr.collect, List.mem_flatMap]; exact ⟨i, List.mem_range.2 hi, h⟩)
    · obtain ⟨k, hk, rfl⟩ := List.mem_map.1 h
      obtain ⟨c', hc', rfl⟩ := List.mem_map.1 (mem_kInSlot.1 hk).1
      exact List.mem_append_right _ (List.mem_map_of_mem (f := fun c : C => c.k.r) hc')
  have h1 := ap_good d (P * 16 + i) (ch i) _ (T i) (hgc i hi) hsrt hpre hseq (fun a ha b hb => hA.one a (hsubc a ha) b (hsubc b hb)) (hap i hi)
  refine ⟨h1.1, ?_⟩
  have h2 := h1.2.2
  have h3 := cnt_le ch hi
  have h4 := hA.cnt
  have h5 : (Tr.inner g ch c).cnt = c := rfl
  have h6 : (kInSlot d i (cs.map fun c => c.k)).length ≤ n := by
    have := List.length_filter_le (fun k : K => slotOf k.r.hash (4 * (d + 1)) == (i : Int)) (cs.map fun c => c.k)
    rw [List.length_map, hA.len] at this
    exact this
  omega

theorem pc_len {d : Nat} {P : Int} {T : Nat → Tr} (hg : ∀ i, i < 16 → Good (T i) d (P * 16 + i) ∧ (T i).cnt ≤ 16384) : (pc T 16).length = sumC T := by
  unfold pc sumC
  rw [List.length_flatMap]
  congr 1
  exact List.map_congr_left fun i hi => (good_all _ _ _ (hg i (List.mem_range.1 hi)).1).2.2.symm

/-- held on the new inner node -/
theorem held_inner {d g S : Nat} {P : Int} {T : Nat → Tr} {wr : World} (hg : ∀ i, i < 16 → Good (T i) d (P * 16 + i) ∧ (T i).cnt ≤ 16384) (hS : sumC T = S) (hS32 : S ≤ 32) (hT : IsT wr (fun _ => False) (.inner g T S)) :
    Calls Try.prog 40 #[.pointer (some ⟨g, 0, none⟩)] wr fun x W' => ∃ D hcs, x = .returned (.slice (some ⟨D, 0, none⟩) S S) ∧ HeldAt wr D (pc T 16) hcs W' := by
  have hlen : (pc T 16).length = S := (pc_len hg).trans hS
  have hcol : (Tr.inner g T S).collect = pc T 16 := by simp only [Tr.collect, pc]
  have hk := hT
  obtain ⟨_, h', _, _, h1, h2⟩ := hk
  have := held_any g (pc T 16) wr (by rw [hlen]; exact h1) (by omega) (fun r hr => small_all wr _ _ hT r (by rw [hcol]; exact hr)) (fun A D c1 c2 W hU => by
    have := each_inner wr (fun _ => False) A D c1 c2 (pc T 16).length g T S [] W hT hU (by simp) (fun i hi l W h3 h4 => each_any wr (fun _ => False) A D c1 c2 _ (by omega) (T i) d (P * 16 + i) l W (hg i hi).1 (h2 i hi).2 h3 h4)
    rw [List.nil_append] at this
    exact this)
  rw [hlen] at this
  exact this
theorem held_build {d D S : Nat} {T : Nat → Tr} {hcs : List C} {wr w5 : World} (hd : d ≤ 16) (hlen : (pc T 16).length = S) (hS32 : S ≤ 32) (h : HeldAt wr D (pc T 16) hcs w5) :
    Calls Try.prog 38 #[.slice (some ⟨D, 0, none⟩) S S, .int .i64 (4 * d : Nat)] w5 fun x w' => ∃ t, x = .returned (.pointer t.ptr) ∧ BldR d (pc T 16) t ∧ IsT w' (· < w5.heap.size) t ∧ Below w5.heap.size w5 w' := by
  have hl : hcs.length = S := by
    have := congrArg List.length h.ks
    rw [List.length_map, List.length_map, hlen] at this
    exact this
  refine build_small d D 0 S S hcs (pc T 16) w5 hd hl hS32 ?_ h.row h.rts ?_
  · rw [map_kr, h.ks, List.map_map]
    exact List.map_id _
  · intro c hc
    have : c.k ∈ hcs.map (fun c => c.k) := List.mem_map_of_mem hc
    rw [h.ks] at this
    obtain ⟨r, _, e⟩ := List.mem_map.1 this
    rw [← e]
    rfl
end Go.Proofs.Qxb6603644a
