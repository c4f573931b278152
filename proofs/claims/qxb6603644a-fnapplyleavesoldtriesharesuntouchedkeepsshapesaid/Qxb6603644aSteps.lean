/-
  THE LAW's STEPS: a copy of the rows; the changes made of them; apply on them.
-/
import Derived.Test.Qxb6603644aMake2
import Derived.Test.Qxb6603644aDom
import Derived.Test.Qxb6603644aNil
import Derived.Test.Qxb6603644aBytes
namespace Go.Proofs.Qxb6603644a
open Go.RowKit Go.Shelf

set_option maxRecDepth 10000 in
theorem clone_nil (w : World) : Calls Try.prog 8 #[.slice none 0 0] w fun x w' => x = .returned (.slice none 0 0) ∧ w' = w := by
  have hnil := fun w => run_eq_slice_nil22 w none 0 0 0 0
  go_enter Try.func8, Try.ntmps8
  go_wp2
  go_ret
  exact ⟨rfl, rfl⟩
set_option maxRecDepth 10000 in
theorem clone_zero (ad : Addr) (cap : Nat) (w : World) : Calls Try.prog 8 #[.slice (some ad) 0 cap] w fun x w' => x = .returned (.slice (some ⟨w.heap.size, 0, none⟩) 0 0) ∧ Below w.heap.size w w' := by
  obtain ⟨arr, harr, hmk0⟩ := mkN Try.underlying22 Try.info41 (by decide) 0 (by decide)
  have hmk : ∀ w, (Instr.makeSlice 22 (.int .i64 0) (.int .i64 0)).run Try.prog w = .ok (.slice (some ⟨w.heap.size, 0, none⟩) 0 0) (w.alloc (.cells arr 41)) := hmk0
  clear hmk0
  have hnil := fun w => run_eq_slice_nil22 w (some ad) 0 cap 0 0
  go_enter Try.func8, Try.ntmps8
  go_wp2
  go_loopw [4] (fun i wr => i = .int .i64 0 ∧ Hid (Below w.heap.size w wr)) (fun _ _ => 0)
  case atStart => exact ⟨rfl, (Below.refl _ _).alloc (Nat.le_refl _) _⟩
  case round =>
    obtain ⟨rfl, hB⟩ := hrel
    go_wp2
    go_ret
    exact ⟨rfl, hB.out⟩
/-- a row of the law as it comes in: nil, or somewhere -/
def RowIn (w : World) (ao : Option Addr) (n cap : Nat) (b off : Nat) (zs : List Z) : Prop := zs.length = n ∧ (ao = none ∧ n = 0 ∧ cap = 0 ∨ ∃ ad, ao = some ad ∧ (n = 0 ∨ ad = ⟨b, off, none⟩)) ∧ ZRow w b off zs
theorem RowIn.hao {w : World} {ao : Option Addr} {n cap b off : Nat} {zs : List Z} (h : RowIn w ao n cap b off zs) : n = 0 ∨ ao = some ⟨b, off, none⟩ := by
  rcases h.2.1 with ⟨_, h, _⟩ | ⟨ad, rfl, h | rfl⟩
  · exact .inl h
  · exact .inl h
  · exact .inr rfl
theorem RowIn.later {w w' : World} {ao : Option Addr} {n cap b off : Nat} {zs : List Z} (h : RowIn w ao n cap b off zs) (hb : Below w.heap.size w w') : RowIn w' ao n cap b off zs := ⟨h.1, h.2.1, h.2.2.later hb⟩
theorem clone_any {w : World} {ao : Option Addr} {n cap b off : Nat} {zs : List Z} (h : RowIn w ao n cap b off zs) (hnb : n ≤ 16384) :
    Calls Try.prog 8 #[.slice ao n cap] w fun x w' => ∃ ao' A cap', x = .returned (.slice ao' n cap') ∧ (n = 0 ∨ ao' = some ⟨A, 0, none⟩) ∧ ZRow w' A 0 zs ∧ Below w.heap.size w w' := by
  obtain ⟨hn, hao, hrow⟩ := h
  by_cases h0 : n = 0
  · subst h0
    obtain rfl : zs = [] := List.length_eq_zero_iff.1 hn
    rcases hao with ⟨rfl, _, rfl⟩ | ⟨ad, rfl, _⟩
    · exact (clone_nil w).mono fun x w' ⟨hx, hw⟩ => ⟨none, 0, 0, hx, .inl rfl, fun i hi => absurd hi (by simp), by rw [hw]; exact Below.refl _ _⟩
    · exact (clone_zero ad cap w).mono fun x w' ⟨hx, hw⟩ => ⟨_, 0, 0, hx, .inl rfl, fun i hi => absurd hi (by simp), hw⟩
  · obtain ⟨ad, rfl, had⟩ : ∃ ad, ao = some ad ∧ ad = ⟨b, off, none⟩ := by
      rcases hao with ⟨_, h, _⟩ | ⟨ad, h1, h2⟩
      · exact absurd h h0
      · exact ⟨ad, h1, h2.resolve_left h0⟩
    subst had
    refine (clone_some b off n cap zs w hn hnb hrow (fun _ => cell_lt (hrow 0 (by omega) 0 _ rfl))).mono ?_
    rintro x w' ⟨A, hx, h1, _, h3⟩
    exact ⟨_, A, n, hx, .inr rfl, h1, h3⟩

set_option maxRecDepth 10000 in
set_option maxHeartbeats 1000000 in
theorem make_empty (ao : Option Addr) (cap : Nat) (w : World) :
    Calls Try.prog 10 #[.slice ao 0 cap] w fun x w' => x = .returned (.slice (some ⟨w.heap.size + 1, 0, none⟩) 0 0) ∧ MK w w.heap.size (w.heap.size + 1) 0 0 [] w' := by
  obtain ⟨a1, ha1, hm1'⟩ := mkN Try.underlying46 Try.info53 (by decide) 0 (by decide)
  obtain ⟨a2, ha2, hm2'⟩ := mkN Try.underlying28 Try.info56 (by decide) 0 (by decide)
  have hm1 : ∀ w, (Instr.makeSlice 46 (.int .i64 0) (.int .i64 0)).run Try.prog w = .ok (.slice (some ⟨w.heap.size, 0, none⟩) 0 0) (w.alloc (.cells a1 53)) := hm1'
  have hm2 : ∀ w, (Instr.makeSlice 28 (.int .i64 0) (.int .i64 0)).run Try.prog w = .ok (.slice (some ⟨w.heap.size, 0, none⟩) 0 0) (w.alloc (.cells a2 56)) := hm2'
  clear hm1' hm2'
  have hM0 : Hid (MK w w.heap.size (w.heap.size + 1) 0 0 [] ((w.alloc (.cells a1 53)).alloc (.cells a2 56))) := by
    refine ⟨fun i hi => absurd hi (by omega), fun i hi => absurd hi (by omega), fun j hj => absurd hj (by omega), fun j hj => absurd hj (by omega), by omega, by omega, by simp; omega, ((Below.refl w.heap.size w).alloc (Nat.le_refl _) _).alloc (by simp) _, fun o => ?_⟩
    have hnew := heap_alloc_new (w.alloc (.cells a1 53)) (.cells a2 56)
    rw [World.size_alloc] at hnew
    exact Lib.frozen_of_heap hnew o
  clear ha1 ha2
  go_enter Try.func10, Try.ntmps10
  go_wp2
  go_loopw [5] (fun i wr => i = .int .i64 0 ∧ Hid (MK w w.heap.size (w.heap.size + 1) 0 0 [] wr)) (fun _ _ => 0)
  case atStart => exact ⟨rfl, hM0⟩
  case round =>
    clear hM0
    obtain ⟨rfl, hM⟩ := hrel
    go_wp2
    go_ret
    exact ⟨rfl, hM.out⟩
theorem make_any {w : World} {ao : Option Addr} {b off n cap : Nat} {zs : List Z} (hao : n = 0 ∨ ao = some ⟨b, off, none⟩) (hn : zs.length = n) (hnb : n ≤ 16384) (hrow : ZRow w b off zs) :
    Calls Try.prog 10 #[.slice ao n cap] w fun x w' => x = .returned (.slice (some ⟨w.heap.size + 1, 0, none⟩) n n) ∧ MK w w.heap.size (w.heap.size + 1) n n zs w' := by
  by_cases h0 : n = 0
  · subst h0
    obtain rfl : zs = [] := List.length_eq_zero_iff.1 hn
    exact make_empty ao cap w
  · obtain rfl : ao = some ⟨b, off, none⟩ := hao.resolve_left h0
    exact make_some b off n cap zs w hn hnb hrow

/-- the changes that zzMake makes -/
def mkCs (A : Nat) (zs : List Z) : List C := (List.range zs.length).map (mkC A zs)
theorem mkCs_len (A : Nat) (zs : List Z) : (mkCs A zs).length = zs.length := by simp [mkCs]
theorem mkCs_at {A : Nat} {zs : List Z} {i : Nat} (h : i < zs.length) : cAt (mkCs A zs) i = mkC A zs i := by
  unfold cAt mkCs
  rw [List.getD_eq_getElem?_getD, List.getElem?_eq_getElem (by simpa using h)]
  simp
theorem mkCs_k (A : Nat) (zs : List Z) : (mkCs A zs).map (fun c => c.k) = zs.map ofZ := by
  unfold mkCs
  rw [List.map_map]
  apply List.ext_getElem
  · simp
  · intro i h1 h2
    have hi : i < zs.length := by simpa using h2
    simp only [List.getElem_map, List.getElem_range, Function.comp_apply, mkC]
    unfold zAt
    rw [List.getD_eq_getElem?_getD, List.getElem?_eq_getElem hi]
    rfl
theorem MK.chRow {w : World} {A D n : Nat} {zs : List Z} {W : World} (h : MK w A D n n zs W) (hn : zs.length = n) : ChRow W D 0 (mkCs A zs) := by
  intro i hi
  rw [mkCs_len] at hi
  rw [mkCs_at hi, Nat.zero_add]
  have hr := h.row i (by omega)
  have h0 := hr 0 _ rfl
  have h1 := hr 1 _ rfl
  have h2 := hr 2 _ rfl
  have h3 := hr 3 _ rfl
  rw [Nat.add_zero] at h0
  exact ⟨h0, h1, h2, h3⟩
theorem small_toR {z : Z} (h : SmZ z) : Small (toR z) := by
  intro j
  match j with
  | 0 => exact h.1
  | 1 => exact h.2 0
  | 2 => exact h.2 1
  | 3 => exact h.2 2
  | 4 => exact h.2 3
  | 5 => exact h.2 4
  | 6 => exact h.2 5
  | 7 => exact h.2 6
  | 8 => exact h.2 7
  | 9 => exact h.2 8
  | 10 => exact h.2 9
  | 11 => exact h.2 10
  | 12 => exact h.2 11
  | 13 => exact h.2 12
  | j + 14 => exact (show ByteArray.empty.size ≤ 1048576 by decide)
theorem MK.rtsOf {w : World} {A D n : Nat} {zs : List Z} {W : World} (h : MK w A D n n zs W) (hn : zs.length = n) (hs : ∀ z ∈ zs, SmZ z) : Rts W D (mkCs A zs) := by
  intro c hc
  obtain ⟨i, hi, rfl⟩ := List.mem_map.1 hc
  have hi' : i < zs.length := List.mem_range.1 hi
  refine ⟨small_toR (hs _ (zAt_mem hi')), fun hp => ?_, fun hp => ?_⟩
  · have hp' : (zAt zs i).put = true := hp
    exact ⟨A, i * 18, by simp [mkC, hp'], h.ne, of_range (h.rts i (by omega) hp')⟩
  · have hp' : (zAt zs i).put = false := hp
    simp [mkC, hp']
theorem mkCs_mem {A : Nat} {zs : List Z} {c : C} (h : c ∈ mkCs A zs) : ∃ z ∈ zs, c.k = ofZ z := by
  obtain ⟨i, hi, rfl⟩ := List.mem_map.1 h
  exact ⟨zAt zs i, zAt_mem (List.mem_range.1 hi), rfl⟩
theorem mkCs_r (A : Nat) (zs : List Z) : (mkCs A zs).map (fun c => c.k.r) = zs.map toR := by
  rw [map_kr, mkCs_k, List.map_map]
  rfl

/-- the facts on one list of rows that apply asks -/
structure ListOK (zs : List Z) (d : Nat) (P : Int) : Prop where
  srt : (zs.map ofZ).Pairwise ksl
  pre : ∀ z ∈ zs, z.hash / 2 ^ (4 * d) = P
  sm : ∀ z ∈ zs, SmZ z
  hr : ∀ z ∈ zs, HrZ z

theorem apply_first {w w' : World} {A D n d : Nat} {P : Int} {zs : List Z} (hM : MK w A D n n zs w') (hn : zs.length = n) (hnb : n ≤ 4096) (hd : d ≤ 16) (hL : ListOK zs d P) (hone : OneHash (zs.map toR)) :
    Calls Try.prog 9 #[.pointer none, .int .i64 (4 * d : Nat), .slice (some ⟨D, 0, none⟩) n n] w' fun x W => ∃ t1, x = .returned (.pointer t1.ptr) ∧ ApR d .nil (zs.map ofZ) t1 ∧ IsT W (fun _ => False) t1 ∧ Below D w' W := by
  by_cases h0 : n = 0
  · subst h0
    obtain rfl : zs = [] := List.length_eq_zero_iff.1 hn
    refine (zzapply_empty (d := d) (t := .nil) (N := fun _ => False) (b := D) (off := 0) (cap := 0) (ao := some ⟨D, 0, none⟩) (show IsT w' _ Tr.nil from trivial) hM.fz hM.lt.2).mono ?_
    rintro x W ⟨t', rfl, hP⟩
    exact ⟨t', rfl, hP.ap, hP.isT.mono (fun _ h => h.elim), hP.below⟩
  · have hrow : RowOK w' D 0 n n (mkCs A zs) d P := by
      refine ⟨hd, by rw [mkCs_len]; exact hn, by omega, by omega, Nat.le_refl _, by omega, hM.chRow hn, hM.rtsOf hn hL.sm, hM.fz, by rw [mkCs_k]; exact hL.srt, fun c hc => ?_, by rw [mkCs_r]; exact hone, fun c hc => ?_⟩
      · obtain ⟨z, hz, e⟩ := mkCs_mem hc
        rw [e]
        exact hL.pre z hz
      · obtain ⟨z, hz, e⟩ := mkCs_mem hc
        rw [e]
        exact hL.hr z hz
    refine (zzapply_nil0 (N := fun _ => False) hrow).mono ?_
    rintro x W ⟨t', rfl, hP⟩
    have := hP.ap
    rw [mkCs_k] at this
    exact ⟨t', rfl, this, hP.isT.mono (fun _ h => h.elim), hP.below⟩

theorem apply_second {w w' : World} {A D m d : Nat} {P : Int} {zs : List Z} {t1 : Tr} (hM : MK w A D m m zs w') (hm : zs.length = m) (hmb : m ≤ 4096) (hd : d ≤ 16) (hL : ListOK zs d P) (hseq : ∀ z ∈ zs, 0 ≤ z.seq) (hone : OneHash (t1.collect ++ zs.map toR))
    (hg : Good t1 d P) (hT : IsT w (fun _ => False) t1) (hc : t1.cnt ≤ 4096) (hr : ∀ r ∈ t1.collect, 0 ≤ r.hash ∧ r.hash < 18446744073709551616) :
    Calls Try.prog 9 #[.pointer t1.ptr, .int .i64 (4 * d : Nat), .slice (some ⟨D, 0, none⟩) m m] w' fun x W => ∃ t2, x = .returned (.pointer t2.ptr) ∧ ApR d t1 (zs.map ofZ) t2 ∧ IsT W (fun _ => False) t2 ∧ Below D w' W := by
  have hT2 : IsT w' (fun k => w.heap.size ≤ k) t1 := (IsT.other (N' := fun k => w.heap.size ≤ k) (fun k hk => .inr hk) hg hT).keep (Keep.below (X := Nowhere) hM.below) (fun _ h => h.elim)
  by_cases h0 : m = 0
  · subst h0
    obtain rfl : zs = [] := List.length_eq_zero_iff.1 hm
    refine (zzapply_empty (d := d) (t := t1) (b := D) (off := 0) (cap := 0) (ao := some ⟨D, 0, none⟩) hT2 hM.fz hM.lt.2).mono ?_
    rintro x W ⟨t', rfl, hP⟩
    exact ⟨t', rfl, hP.ap, hP.isT.mono (fun _ h => h.elim), hP.below⟩
  · have hA : AH d P t1 w' (fun k => w.heap.size ≤ k) D 0 m m (mkCs A zs) := by
      refine ⟨hd, hg, hT2, hM.ge.2, by rw [mkCs_len]; exact hm, by omega, Nat.le_refl _, by omega, hM.chRow hm, hM.rtsOf hm hL.sm, hM.fz, by rw [mkCs_k]; exact hL.srt, fun c hc => ?_, fun c hc => ?_, by rw [mkCs_r]; exact hone, fun r hr' => ?_⟩
      · obtain ⟨z, hz, e⟩ := mkCs_mem hc
        rw [e]
        exact hL.pre z hz
      · obtain ⟨z, hz, e⟩ := mkCs_mem hc
        rw [e]
        exact hseq z hz
      · rw [mkCs_r] at hr'
        rcases List.mem_append.1 hr' with h | h
        · exact hr r h
        · obtain ⟨z, hz, rfl⟩ := List.mem_map.1 h
          exact hL.hr z hz
    refine (zzapply_any (by omega) hA).mono ?_
    rintro x W ⟨t', rfl, hP⟩
    have := hP.ap
    rw [mkCs_k] at this
    exact ⟨t', rfl, this, hP.isT.mono (fun _ h => h.elim), hP.below⟩
end Go.Proofs.Qxb6603644a
