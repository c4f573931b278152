/-
  THE WALKS of each (45) and held (40).
-/
import Derived.Test.Qxb6603644aHeld
namespace Go.Proofs.Qxb6603644a
open Go.RowKit Go.Shelf

def clo (c1 c2 : Nat) : Value := .func (.func 46) #[] #[.pointer (some ⟨c1, 0, none⟩), .pointer (some ⟨c2, 0, none⟩)]

theorem rAt_take (rs : List R) {i : Nat} (h : i < rs.length) : rs.take (i + 1) = rs.take i ++ [rAt rs i] := by
  rw [List.take_succ_eq_append_getElem h]
  congr 2
  unfold rAt
  rw [List.getD_eq_getElem?_getD, List.getElem?_eq_getElem h]
  rfl

set_option maxRecDepth 10000 in
set_option maxHeartbeats 1000000 in
theorem each_leaf (w : World) (N : Nat → Prop) (A D c1 c2 cnt g : Nat) (l rs : List R) (W : World) (hL : LeafAt w N g rs) (h0 : 0 < rs.length) (hU : HU w A D c1 c2 cnt l l W) (hl : l.length + rs.length ≤ cnt) (hcnt : cnt ≤ 16384) :
    Calls Try.prog 45 #[.pointer (some ⟨g, 0, none⟩), clo c1 c2] W fun x W' => x = .returned (.bool true) ∧ HU w A D c1 c2 cnt (l ++ rs) (l ++ rs) W' := by
  obtain ⟨e, hNe, he1, he2⟩ := hL.ents
  have HL : Hid (LeafAt w N g rs) := hL
  have HU0 : Hid (HU w A D c1 c2 cnt l l W) := hU
  have HE : Hid (∀ o, o < 19 * rs.length → w.cell? ⟨e, o, none⟩ = some (entCell rs o)) := he2
  have kk : ∀ a v, w.cell? a = some v → W.cell? a = some v := fun a v h => Keep.below (X := Nowhere) hU.below a v (fun h => h) h
  have k0 := kk _ _ hL.ch
  have k2 := kk _ _ he1
  obtain ⟨n, hn⟩ : ∃ n, rs.length = n := ⟨_, rfl⟩
  rw [hn] at k2 hl h0
  have HN : Hid (rs.length = n) := hn
  clear hL he2 hU hn kk
  have he1' := he1
  rw [HN.out] at he1'
  have HE1 : Hid (w.cell? ⟨g, 2, none⟩ = some (.slice (some ⟨e, 0, none⟩) n n)) := he1'
  have HL0 : Hid (l.length ≤ cnt) := Nat.le_trans (Nat.le_add_right _ _) hl
  clear he1 he1'
  unfold clo
  go_enter Try.func45, Try.ntmps45
  go_wp2
  go_loopw [34] (fun i wr => ∃ k : Nat, k ≤ n ∧ i = .int .i64 k ∧ Hid (HU w A D c1 c2 cnt (l ++ rs.take k) (l ++ rs.take k) wr)) (fun i _ => n - (intOf i).toNat)
  case atStart => exact ⟨0, Nat.zero_le _, rfl, by rw [List.take_zero, List.append_nil]; exact HU0⟩
  case round =>
    clear k0 k2 HU0
    obtain ⟨k, hk, rfl, hU⟩ := hrel
    have kk : ∀ a v, w.cell? a = some v → wr.cell? a = some v := fun a v h => Keep.below (X := Nowhere) hU.out.below a v (fun h => h) h
    by_cases hlt : k < n
    · have k2 := kk _ _ HE1.out
      have kh : wr.cell? ⟨e, k * 19, none⟩ = some (.int .u64 (rAt rs k).hash) := by
        rw [← ent0]
        exact kk _ _ (HE.out _ (by rw [HN.out]; omega))
      have HL1 : Hid (LeafAt wr N g rs) := HL.out.keep (Keep.below (X := Nowhere) hU.out.below) (fun _ h => h.elim)
      have HL1d : Hid (LeafAt wr.drew N g rs) := HL1.out.keep (X := Nowhere) (fun _ _ _ h => h) (fun _ h => h.elim)
      have hlk : Hid ((l ++ rs.take k).length < cnt) := by
        show _ < _
        rw [List.length_append, List.length_take, HN.out]
        omega
      have htk : Hid (l ++ rs.take (k + 1) = (l ++ rs.take k) ++ [rAt rs k]) := by
        show _ = _
        rw [rAt_take rs (by rw [HN.out]; exact hlt), List.append_assoc]
      clear kk HL1
      go_wp2
      go_region_held3 (fun W5 => W5.cell? ⟨g, 2, none⟩ = some (.slice (some ⟨e, 0, none⟩) n n) ∧ W5.cell? ⟨e, k * 19, none⟩ = some (.int .u64 (rAt rs k).hash)) (first | exact ⟨k2, kh⟩ | exact ⟨k25, kh5⟩ | exact ⟨k26, kh6⟩) (first
        | (go_at_call 46; refine (held1_any w A D c1 c2 cnt (l ++ rs.take k) (rAt rs k) _ hU5 hlk.out hcnt).mono ?_; rintro x6 w6 ⟨rfl, hU6⟩; have k26 : w6.cell? ⟨g, 2, none⟩ = some (.slice (some ⟨e, 0, none⟩) n n) := (Keep.below (X := Nowhere) hU6.below _ _ (fun h => h) HE1.out); have kh6 : w6.cell? ⟨e, k * 19, none⟩ = some (.int .u64 (rAt rs k).hash) := (by rw [← ent0]; exact Keep.below (X := Nowhere) hU6.below _ _ (fun h => h) (HE.out _ (by rw [HN.out]; omega))))
        | (go_at_call 59; refine (route_any N g k rs _ HL1d.out (by rw [HN.out]; exact hlt) (by rw [HN.out]; omega)).mono ?_; rintro x5 w5 ⟨rfl, hb5⟩; have k25 : w5.cell? ⟨g, 2, none⟩ = some (.slice (some ⟨e, 0, none⟩) n n) := (Keep.below (X := Nowhere) hb5 _ _ (fun h => h) k2); have kh5 : w5.cell? ⟨e, k * 19, none⟩ = some (.int .u64 (rAt rs k).hash) := (Keep.below (X := Nowhere) hb5 _ _ (fun h => h) kh); have hU5 : HU w A D c1 c2 cnt (l ++ rs.take k) (l ++ rs.take k) w5 := (hU.out.drew.keep hb5)))
      go_wp2
      go_roundw
      case rel => exact ⟨k + 1, hlt, by go_num, by rw [htk.out]; exact hU6⟩
      case measure => simp [intOf]; omega
    · obtain rfl : k = n := by omega
      go_wp2
      go_ret
      refine ⟨rfl, ?_⟩
      have := hU.out
      rw [List.take_of_length_le (by rw [HN.out]; exact Nat.le_refl _)] at this
      exact this

/-- the routes of the first k children -/
def pc (ch : Nat → Tr) (k : Nat) : List R := (List.range k).flatMap fun i => (ch i).collect
theorem pc_succ (ch : Nat → Tr) (k : Nat) : pc ch (k + 1) = pc ch k ++ (ch k).collect := by simp [pc, List.range_succ]
theorem pc_le (ch : Nat → Tr) {j k : Nat} (h : j ≤ k) : (pc ch j).length ≤ (pc ch k).length := by
  induction k with
  | zero => simp [show j = 0 by omega]
  | succ k ih =>
    by_cases e : j ≤ k
    · have := ih e
      rw [pc_succ, List.length_append]
      omega
    · simp [show j = k + 1 by omega]

set_option maxRecDepth 10000 in
set_option maxHeartbeats 1000000 in
theorem each_inner (w : World) (N : Nat → Prop) (A D c1 c2 cnt : Nat) (g : Nat) (ch : Nat → Tr) (c : Nat) (l : List R) (W : World) (hT : IsT w N (.inner g ch c)) (hU : HU w A D c1 c2 cnt l l W) (hl : l.length + (pc ch 16).length ≤ cnt)
    (ih : ∀ i, i < 16 → ∀ (l : List R) (W : World), HU w A D c1 c2 cnt l l W → l.length + (ch i).collect.length ≤ cnt → Calls Try.prog 45 #[.pointer (ch i).ptr, clo c1 c2] W fun x W' => x = .returned (.bool true) ∧ HU w A D c1 c2 cnt (l ++ (ch i).collect) (l ++ (ch i).collect) W') :
    Calls Try.prog 45 #[.pointer (some ⟨g, 0, none⟩), clo c1 c2] W fun x W' => x = .returned (.bool true) ∧ HU w A D c1 c2 cnt (l ++ pc ch 16) (l ++ pc ch 16) W' := by
  obtain ⟨_, h, _, k0, _, kc⟩ := hT
  have IH : Hid (∀ i, i < 16 → ∀ (l : List R) (W : World), HU w A D c1 c2 cnt l l W → l.length + (ch i).collect.length ≤ cnt → Calls Try.prog 45 #[.pointer (ch i).ptr, clo c1 c2] W fun x W' => x = .returned (.bool true) ∧ HU w A D c1 c2 cnt (l ++ (ch i).collect) (l ++ (ch i).collect) W') := ih
  have KC : Hid (∀ i, i < 16 → w.cell? ⟨h, i, none⟩ = some (.pointer (ch i).ptr)) := fun i hi => (kc i hi).1
  have HU0 : Hid (HU w A D c1 c2 cnt l l W) := hU
  have g0 := Keep.below (X := Nowhere) hU.below _ _ (fun h => h) k0
  have HL : Hid (l.length + (pc ch 16).length ≤ cnt) := hl
  clear ih kc hU hl k0
  simp only [clo]
  go_enter Try.func45, Try.ntmps45
  go_wp2
  go_loopw [19] (fun i wr => ∃ k : Nat, k ≤ 16 ∧ i = .int .i64 k ∧ Hid (HU w A D c1 c2 cnt (l ++ pc ch k) (l ++ pc ch k) wr)) (fun i _ => 16 - (intOf i).toNat)
  case atStart => exact ⟨0, Nat.zero_le _, rfl, by have : pc ch 0 = [] := rfl; rw [this, List.append_nil]; exact HU0⟩
  case round =>
    clear g0 HU0
    obtain ⟨k, hk, rfl, hU⟩ := hrel
    by_cases hlt : k < 16
    · have kk := Keep.below (X := Nowhere) hU.out.below _ _ (fun h => h) (KC.out k hlt)
      have hlk : Hid ((l ++ pc ch k).length + (ch k).collect.length ≤ cnt) := by
        show _ ≤ _
        have h1 := pc_le ch (show k + 1 ≤ 16 by omega)
        have h2 := HL.out
        rw [pc_succ, List.length_append] at h1
        rw [List.length_append]
        omega
      obtain ⟨p, hp⟩ : ∃ p, (ch k).ptr = p := ⟨_, rfl⟩
      have hcall := IH.out k hlt _ _ hU.out hlk.out
      rw [hp] at kk hcall
      unfold clo at hcall
      have HP : Hid ((ch k).ptr = p) := hp
      clear hp
      go_wp2_with (go_at_call 45; refine hcall.mono ?_; rintro x1 w1 ⟨rfl, hU1⟩)
      go_roundw
      case rel => exact ⟨k + 1, hlt, by go_num, by rw [pc_succ, ← List.append_assoc]; exact hU1⟩
      case measure => simp [intOf]; omega
    · obtain rfl : k = 16 := by omega
      go_wp2
      go_ret
      exact ⟨rfl, hU.out⟩

set_option maxRecDepth 10000 in
set_option maxHeartbeats 1000000 in
theorem each_any (w : World) (N : Nat → Prop) (A D c1 c2 cnt : Nat) (hcnt : cnt ≤ 16384) (t : Tr) : ∀ (d : Nat) (P : Int) (l : List R) (W : World), Good t d P → IsT w N t → HU w A D c1 c2 cnt l l W → l.length + t.collect.length ≤ cnt →
    Calls Try.prog 45 #[.pointer t.ptr, clo c1 c2] W fun x W' => x = .returned (.bool true) ∧ HU w A D c1 c2 cnt (l ++ t.collect) (l ++ t.collect) W' := by
  induction t with
  | nil =>
    intro d P l W hg hT hU hl
    simp only [Tr.ptr, clo]
    go_enter Try.func45, Try.ntmps45
    go_wp2
    go_ret
    exact ⟨rfl, by simpa [Tr.collect] using hU⟩
  | leaf g rs =>
    intro d P l W hg hT hU hl
    exact each_leaf w N A D c1 c2 cnt g l rs W hT (List.length_pos_iff.2 hg.1) hU hl hcnt
  | inner g ch c ih =>
    intro d P l W hg hT hU hl
    obtain ⟨d', rfl, _, _, hgc⟩ := hg
    have hcol : (Tr.inner g ch c).collect = pc ch 16 := by simp only [Tr.collect, pc]
    rw [hcol] at hl ⊢
    have kc : ∀ i, i < 16 → IsT w N (ch i) := by
      obtain ⟨_, h, _, _, _, kc⟩ := hT
      exact fun i hi => (kc i hi).2
    exact each_inner w N A D c1 c2 cnt g ch c l W hT hU hl fun i hi l W h1 h2 => ih i d' (P * 16 + i) l W (hgc i hi) (kc i hi) h1 h2

theorem small_all (w : World) (N : Nat → Prop) (t : Tr) : IsT w N t → ∀ r ∈ t.collect, Small r := by
  induction t with
  | nil => intro _ r hr; simp [Tr.collect] at hr
  | leaf g rs => intro h r hr; exact h.small r hr
  | inner g ch c ih =>
    intro h r hr
    obtain ⟨_, h', _, _, _, kc⟩ := h
    simp only [Tr.collect, List.mem_flatMap] at hr
    obtain ⟨i, hi, hr⟩ := hr
    exact ih i (kc i (List.mem_range.1 hi)).2 r hr

theorem mk46 (n : Nat) (h : n ≤ 16384) : ∃ arr : Array Value, arr.size = n * 18 ∧ ∀ w, (Instr.makeSlice 46 (.int .i64 0) (.int .i64 (n : Int))).run Try.prog w = .ok (.slice (some ⟨w.heap.size, 0, none⟩) 0 n) (w.alloc (.cells arr 53)) :=
  ⟨_, size_madeCells _ _, fun w => mkRow Try.underlying46 Try.info53 0 n (Nat.zero_le _) (by omega) (by decide) w⟩
theorem mk28 (n : Nat) (h : n ≤ 16384) : ∃ arr : Array Value, arr.size = n * 4 ∧ ∀ w, (Instr.makeSlice 28 (.int .i64 0) (.int .i64 (n : Int))).run Try.prog w = .ok (.slice (some ⟨w.heap.size, 0, none⟩) 0 n) (w.alloc (.cells arr 56)) :=
  ⟨_, size_madeCells _ _, fun w => mkRow Try.underlying28 Try.info56 0 n (Nat.zero_le _) (by omega) (by decide) w⟩

/-- what held hands over -/
structure HeldAt (w : World) (D : Nat) (col : List R) (hcs : List C) (W : World) : Prop where
  ks : hcs.map (fun c => c.k) = col.map heldK
  row : ChRow W D 0 hcs
  rts : Rts W D hcs
  fz : ∀ o, o < col.length * 4 → W.frozen? ⟨D, o, none⟩ = false
  ge : w.heap.size ≤ D
  below : Below w.heap.size w W
theorem HU.held {w : World} {A D c1 c2 : Nat} {col : List R} {W : World} (h : HU w A D c1 c2 col.length col col W) (hs : ∀ r ∈ col, Small r) : HeldAt w D col (heldCs A col) W := by
  refine ⟨?_, fun i hi => ?_, fun c hc => ?_, fun o ho => ?_, h.ge.2.1, h.below⟩
  · apply List.ext_getElem
    · simp [heldCs]
    · intro i h1 h2
      simp only [heldCs, List.getElem_map, List.getElem_range, heldC]
      simp at h2
      unfold rAt
      rw [List.getD_eq_getElem?_getD, List.getElem?_eq_getElem h2]
      rfl
  · rw [heldCs_length] at hi
    rw [heldCs_at A col hi]
    have := h.row i hi
    rw [Nat.zero_add]
    exact ⟨this 0 _ rfl, this 1 _ rfl, this 2 _ rfl, this 3 _ rfl⟩
  · simp only [heldCs, List.mem_map, List.mem_range] at hc
    obtain ⟨i, hi, rfl⟩ := hc
    refine ⟨?_, fun _ => ⟨A, i * 18, rfl, h.ne.1, of_range (h.rts i hi)⟩, fun e => by simp [heldC, heldK] at e⟩
    refine hs _ ?_
    show rAt col i ∈ col
    unfold rAt
    rw [List.getD_eq_getElem?_getD, List.getElem?_eq_getElem hi]
    exact List.getElem_mem hi
  · have := (h.tD o (by omega)).2
    rw [Nat.zero_add] at this
    exact this

set_option maxRecDepth 10000 in
set_option maxHeartbeats 1000000 in
theorem held_any (g : Nat) (col : List R) (w : World) (hc : w.cell? ⟨g, 1, none⟩ = some (.int .i64 (col.length : Nat))) (hcnt : col.length ≤ 16384) (hs : ∀ r ∈ col, Small r)
    (hE : ∀ A D c1 c2 W, HU w A D c1 c2 col.length [] [] W → Calls Try.prog 45 #[.pointer (some ⟨g, 0, none⟩), clo c1 c2] W fun x W' => x = .returned (.bool true) ∧ HU w A D c1 c2 col.length col col W') :
    Calls Try.prog 40 #[.pointer (some ⟨g, 0, none⟩)] w fun x W' => ∃ D hcs, x = .returned (.slice (some ⟨D, 0, none⟩) col.length col.length) ∧ HeldAt w D col hcs W' := by
  obtain ⟨n, hn⟩ : ∃ n, col.length = n := ⟨_, rfl⟩
  have HN : Hid (col.length = n) := hn
  have HE : Hid (∀ A D c1 c2 W, HU w A D c1 c2 n [] [] W → Calls Try.prog 45 #[.pointer (some ⟨g, 0, none⟩), clo c1 c2] W fun x W' => x = .returned (.bool true) ∧ HU w A D c1 c2 n col col W') := by rw [← hn]; exact hE
  have HS : Hid (∀ r ∈ col, Small r) := hs
  rw [hn] at hc hcnt
  rw [hn]
  clear hE hs hn
  obtain ⟨a1, ha1, hm1⟩ := mk46 n hcnt
  obtain ⟨a2, ha2, hm2⟩ := mk28 n hcnt
  have HA1 : Hid (a1.size = n * 18) := ha1
  have HA2 : Hid (a2.size = n * 4) := ha2
  clear ha1 ha2
  have hgl : g < w.heap.size := cell_lt hc
  go_enter Try.func40, Try.ntmps40
  go_upto_region 5 with fail
  obtain ⟨W0, hW0⟩ : ∃ W0, W0 = (((w.alloc (.cells a1 53)).alloc (.cells #[.slice (some ⟨w.heap.size, 0, none⟩) 0 n] 46)).alloc (.cells a2 56)).alloc (.cells #[.slice (some ⟨w.heap.size + 1 + 1, 0, none⟩) 0 n] 28) := ⟨_, rfl⟩
  rw [← hW0]
  have hU0 : HU w w.heap.size (w.heap.size + 2) (w.heap.size + 1) (w.heap.size + 3) n [] [] W0 := by
    obtain ⟨f0, f1, f2, f3, f4⟩ := four w (.cells a1 53) (.cells #[.slice (some ⟨w.heap.size, 0, none⟩) 0 n] 46) (.cells a2 56) (.cells #[.slice (some ⟨w.heap.size + 1 + 1, 0, none⟩) 0 n] 28)
    rw [← hW0] at f0 f1 f2 f3 f4
    have hsz : W0.heap.size = w.heap.size + 4 := by rw [hW0]; simp
    refine ⟨by rw [Lib.cell_of_heap f1]; rfl, by rw [Lib.cell_of_heap f3]; rfl, Lib.frozen_of_heap f1 0, Lib.frozen_of_heap f3 0, fun i hi => absurd hi (by simp), fun i hi => absurd hi (by simp), fun j hj => ⟨?_, Lib.frozen_of_heap f0 _⟩, fun j hj => ⟨?_, Lib.frozen_of_heap f2 _⟩, by omega, by omega, by omega, f4⟩
    · rw [Lib.cell_of_heap f0, Nat.zero_add, Array.getElem?_eq_getElem (by rw [HA1.out]; omega)]
      rfl
    · rw [Lib.cell_of_heap f2, Nat.zero_add, Array.getElem?_eq_getElem (by rw [HA2.out]; omega)]
      rfl
  clear hW0 hm1 hm2
  have hcall := HE.out _ _ _ _ _ hU0
  unfold clo at hcall
  go_upto_region 6 with (go_at_call 45; refine hcall.mono ?_; rintro x1 w1 ⟨rfl, hU1⟩)
  have q2 := hU1.s2
  rw [HN.out] at q2
  go_wp2
  go_ret
  refine ⟨w.heap.size + 2, heldCs w.heap.size col, rfl, ?_⟩
  rw [← HN.out] at hU1
  exact hU1.held HS.out
end Go.Proofs.Qxb6603644a
