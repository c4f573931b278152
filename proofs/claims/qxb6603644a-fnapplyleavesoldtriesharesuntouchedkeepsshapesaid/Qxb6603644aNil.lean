/-
  apply (22) on no node, the changes' numbers whatever they are (the law's base is not asked to have numbers from 0 on).
-/
import Derived.Test.Qxb6603644aApp6
import Derived.Test.Qxb6603644aModel
namespace Go.Proofs.Qxb6603644a
open Go.RowKit Go.Shelf

theorem RowOK.alloc {w : World} {b off n cap d : Nat} {cs : List C} {P : Int} (h : RowOK w b off n cap cs d P) (hb : b < w.heap.size) (o : Obj) : RowOK (w.alloc o) b off n cap cs d P :=
  ⟨h.d16, h.len, h.pos, h.nb, h.cap1, h.cap2, h.row.keep (keep_new w o) (fun _ h => h.elim), h.rts.keep (keep_new w o) (fun _ h => h.elim), fz_below ((Below.refl _ _).alloc (Nat.le_refl _) _) hb h.fz, h.srt, h.pre, h.one, h.hr⟩

set_option maxRecDepth 10000 in
set_option maxHeartbeats 1000000 in
theorem apply_nil0 {d : Nat} {P : Int} {w : World} {N : Nat → Prop} {b off n cap : Nat} {cs : List C} (hA : RowOK w b off n cap cs d P) :
    Calls Try.prog 22 #[.pointer none, .int .i64 (4 * d : Nat), .slice (some ⟨b, off, none⟩) n cap] w fun x w' => ∃ t', x = .returned (.pointer t'.ptr) ∧ AP d .nil w N b off n cs t' w' := by
  have h0 := hA.pos
  have hbl : b < w.heap.size := cell_lt (hA.row 0 (by rw [hA.len]; exact h0)).1
  have hnb : n ≤ 16384 := hA.nb
  obtain ⟨s, hs⟩ : ∃ s, 4 * d = s := ⟨_, rfl⟩
  have hs64 : s ≤ 64 := by have := hA.d16; omega
  have HR1 : Hid (RowOK (w.alloc (.cells #[.int .i64 (s : Int)] 3)) b off n cap cs d P) := hA.alloc hbl _
  have HA : Hid (RowOK w b off n cap cs d P) := hA
  rw [hs]
  have HS : Hid (4 * d = s) := hs
  clear hA hs
  obtain ⟨W1, hW1⟩ : ∃ W1, W1 = (w.alloc (.cells #[.int .i64 (s : Int)] 3)).drew := ⟨_, rfl⟩
  have HR2 : Hid (RowOK W1 b off n cap cs d P) := by rw [hW1]; exact HR1.out.drew
  have q0 : W1.cell? ⟨w.heap.size, 0, none⟩ = some (.int .i64 (s : Int)) := by
    rw [hW1]
    show World.cell? (w.alloc _) _ = _
    rw [Lib.cell_of_heap (heap_alloc_new _ _)]
    rfl
  have hb01 : Below w.heap.size w W1 := by rw [hW1]; exact ((Below.refl w.heap.size w).alloc (Nat.le_refl _) _).drew
  have ho1 : KeepsOthers w W1 := keepsOthers_of hb01
  have HW1 : Hid (W1 = (w.alloc (.cells #[.int .i64 (s : Int)] 3)).drew) := hW1
  clear hW1 HR1
  have hset := sb_settle HR2.out
  rw [HW1.out] at hset
  go_enter Try.func22, Try.ntmps22
  go_wp2
  go_region_held3 (fun W5 => W5.cell? ⟨w.heap.size, 0, none⟩ = some (.int .i64 (s : Int))) (first | exact q2 | exact q1 | (rw [← HW1.out]; exact q0) | simp) (first
    | (go_at_call 38; refine hbld.mono ?_; rintro x2 w2 ⟨t', rfl, hbl2, hT2, hB2⟩; have q2 : w2.cell? ⟨w.heap.size, 0, none⟩ = some (.int .i64 (s : Int)) := (Keep.below (X := Nowhere) hB2 _ _ (fun h => h) q1))
    | (go_at_call 39; refine hset.mono ?_; rintro x1 w1 ⟨rfl, hS1⟩; rw [← HW1.out] at hS1; have q1 : w1.cell? ⟨w.heap.size, 0, none⟩ = some (.int .i64 (s : Int)) := (hS1.keep _ _ (fun h => absurd h.1 (by show w.heap.size ≠ b; omega)) q0); have hbld := sb_build HR2.out hS1; rw [HS.out] at hbld))
  go_wp2
  go_ret
  have hb1 : w.heap.size ≤ w1.heap.size := Nat.le_trans hb01.size hS1.below.size
  have hb2 := hS1.below.size
  refine ⟨t', rfl, ?_, hT2.mono (fun k hk => by have := hk.2; show k < w1.heap.size; omega), ?_, ?_, ?_, ?_, fun k hk hl => ?_⟩
  · have : cs.map (fun c => c.k) ≠ [] := by
      intro e
      have := congrArg List.length e
      rw [List.length_map, HA.out.len] at this
      simp at this
      omega
    cases d with
    | zero => exact .inr ⟨this, hbl2⟩
    | succ d => exact .inr ⟨this, hbl2⟩
  · exact ((Keep.below hb01).trans hS1.keep).trans (Keep.below hB2)
  · exact ((hb01.mono (by omega)).trans hS1.below).trans (hB2.mono (by have := hb01.size; omega))
  · exact (ho1.trans hS1.others).trans (keepsOthers_of hB2)
  · exact fz_below hB2 (by omega) hS1.fz
  · rw [hB2.block k (by omega), hS1.blk k hk (by have := hb01.size; omega), hb01.block k hl]

set_option maxRecDepth 10000 in
theorem zzapply_nil0 {d : Nat} {P : Int} {w : World} {N : Nat → Prop} {b off n cap : Nat} {cs : List C} (hA : RowOK w b off n cap cs d P) :
    Calls Try.prog 9 #[.pointer none, .int .i64 (4 * d : Nat), .slice (some ⟨b, off, none⟩) n cap] w fun x w' => ∃ t', x = .returned (.pointer t'.ptr) ∧ AP d .nil w N b off n cs t' w' := by
  have hcall := apply_nil0 (N := N) hA
  clear hA
  go_enter Try.func9, Try.ntmps9
  go_wp2_with (go_at_call 22; refine hcall.mono ?_; rintro x1 w1 ⟨t', rfl, hP⟩)
  go_ret
  exact ⟨t', rfl, hP⟩

theorem ap_good0 (d : Nat) (P : Int) (ks : List K) (t' : Tr) (hs : ks.Pairwise ksl) (hp : ∀ k ∈ ks, k.r.hash / 2 ^ (4 * d) = P) (ho : OneHash (ks.map K.r)) (h : ApR d .nil ks t') :
    Good t' d P ∧ (∀ r, r ∈ t'.collect ↔ ∃ k ∈ ks, Last ks k ∧ k.put = true ∧ k.r = r) ∧ t'.cnt ≤ ks.length := by
  have h' : (ks = [] ∧ t' = .nil) ∨ (ks ≠ [] ∧ BldR d ((settle ks).map K.r) t') := by cases d <;> exact h
  rcases h' with ⟨rfl, rfl⟩ | ⟨hne, hb⟩
  · exact ⟨trivial, fun r => by simp [Tr.collect], by simp [Tr.cnt]⟩
  · have hpre : ∀ r ∈ (settle ks).map K.r, r.hash / 2 ^ (4 * d) = P := by
      intro r hr
      obtain ⟨k, hk, rfl⟩ := List.mem_map.1 hr
      exact hp k ((settle_sub ks).mem hk)
    obtain ⟨hg, hc⟩ := bld_good d P _ t' (settle_klt ks hs ho) hpre hb
    refine ⟨hg, fun r => ?_, ?_⟩
    · rw [hc, List.mem_map]
      constructor
      · rintro ⟨k, hk, rfl⟩
        obtain ⟨h1, h2, h3⟩ := (mem_settle ks hs ho k).1 hk
        exact ⟨k, h1, h2, h3, rfl⟩
      · rintro ⟨k, hk, hl, hput, rfl⟩
        exact ⟨k, (mem_settle ks hs ho k).2 ⟨hk, hl, hput⟩, rfl⟩
    · have h3 := (good_all t' d P hg).2.2
      have h4 := (settle_sub ks).length_le
      rw [h3, hc, List.length_map]
      exact h4

theorem ap_ext {d : Nat} {t t' : Tr} {ks : List K} (h : ApR d t ks t') (e : ks = []) : t' = t := by
  subst e
  exact ap_nil_eq h

/-- the law's plain side: behind the two calls of apply the trie holds what the model says -/
theorem plain_law {d n m : Nat} {P : Int} {bs cs : List Z} {t1 t2 : Tr} (hn : bs.length = n) (hm : cs.length = m) (s1 : (bs.map ofZ).Pairwise ksl) (s2 : (cs.map ofZ).Pairwise ksl) (p1 : ∀ z ∈ bs, z.hash / 2 ^ (4 * d) = P) (p2 : ∀ z ∈ cs, z.hash / 2 ^ (4 * d) = P)
    (hseq : ∀ z ∈ cs, 0 ≤ z.seq) (hone : OneHash ((bs ++ cs).map toR)) (h1 : ApR d .nil (bs.map ofZ) t1) (h2 : ApR d t1 (cs.map ofZ) t2) :
    Good t1 d P ∧ Good t2 d P ∧ t1.cnt ≤ n ∧ t2.cnt ≤ n + m ∧ (∀ r ∈ t1.collect, r ∈ bs.map toR) ∧ t2.collect = (mdl (n + m) bs cs).map toR := by
  have e1 : (bs.map ofZ).map K.r = bs.map toR := by rw [List.map_map]; rfl
  have e2 : (cs.map ofZ).map K.r = cs.map toR := by rw [List.map_map]; rfl
  have hk1 : ∀ k ∈ bs.map ofZ, k.r.hash / 2 ^ (4 * d) = P := fun k hk => by obtain ⟨z, hz, rfl⟩ := List.mem_map.1 hk; exact p1 z hz
  have hk2 : ∀ k ∈ cs.map ofZ, k.r.hash / 2 ^ (4 * d) = P := fun k hk => by obtain ⟨z, hz, rfl⟩ := List.mem_map.1 hk; exact p2 z hz
  have hq2 : ∀ k ∈ cs.map ofZ, 0 ≤ k.seq := fun k hk => by obtain ⟨z, hz, rfl⟩ := List.mem_map.1 hk; exact hseq z hz
  obtain ⟨g1, m1, c1⟩ := ap_good0 d P _ t1 s1 hk1 (by rw [e1]; exact fun a ha b hb => hone a (by rw [List.map_append]; exact List.mem_append_left _ ha) b (by rw [List.map_append]; exact List.mem_append_left _ hb)) h1
  have hsub : ∀ r ∈ t1.collect, r ∈ bs.map toR := fun r hr => by
    obtain ⟨k, hk, _, _, rfl⟩ := (m1 r).1 hr
    obtain ⟨z, hz, rfl⟩ := List.mem_map.1 hk
    exact List.mem_map_of_mem (f := toR) hz
  have hone2 : OneHash (t1.collect ++ (cs.map ofZ).map K.r) := by
    rw [e2]
    have hs : ∀ r ∈ t1.collect ++ cs.map toR, r ∈ (bs ++ cs).map toR := fun r hr => by
      rw [List.map_append]
      rcases List.mem_append.1 hr with h | h
      · exact List.mem_append_left _ (hsub r h)
      · exact List.mem_append_right _ h
    exact fun a ha b hb => hone a (hs a ha) b (hs b hb)
  obtain ⟨g2, m2, c2⟩ := ap_good d P t1 _ t2 g1 s2 hk2 hq2 hone2 h2
  rw [List.length_map] at c1 c2
  refine ⟨g1, g2, by omega, by omega, hsub, ?_⟩
  obtain ⟨_, hms, hmm⟩ := mdl_spec (n + m) bs cs (by omega) s1 s2
  have lz : ∀ (l : List Z) (z : Z), Last (l.map ofZ) (ofZ z) ↔ LastZ l z := fun l z => by
    constructor
    · intro h y hy hs
      exact h (ofZ y) (List.mem_map_of_mem hy) hs
    · intro h k hk hs
      obtain ⟨y, hy, rfl⟩ := List.mem_map.1 hk
      exact h y hy hs
  refine eq_of_mem (lt := klt) klt_irrefl klt_trans (good_all t2 d P g2).1 hms (fun r => ?_)
  rw [m2, hmm]
  unfold Res MRes
  constructor
  · rintro (⟨k, hk, hl, hp, rfl⟩ | ⟨hr, hno⟩)
    · obtain ⟨z, hz, rfl⟩ := List.mem_map.1 hk
      exact .inl ⟨z, hz, (lz cs z).1 hl, hp, rfl⟩
    · obtain ⟨k, hk, hl, hp, rfl⟩ := (m1 r).1 hr
      obtain ⟨z, hz, rfl⟩ := List.mem_map.1 hk
      exact .inr ⟨⟨z, hz, (lz bs z).1 hl, hp, rfl⟩, fun y hy => hno (ofZ y) (List.mem_map_of_mem hy)⟩
  · rintro (⟨z, hz, hl, hp, rfl⟩ | ⟨⟨z, hz, hl, hp, rfl⟩, hno⟩)
    · exact .inl ⟨ofZ z, List.mem_map_of_mem hz, (lz cs z).2 hl, hp, rfl⟩
    · refine .inr ⟨(m1 _).2 ⟨ofZ z, List.mem_map_of_mem hz, (lz bs z).2 hl, hp, rfl⟩, fun k hk => ?_⟩
      obtain ⟨y, hy, rfl⟩ := List.mem_map.1 hk
      exact hno y hy
end Go.Proofs.Qxb6603644a
