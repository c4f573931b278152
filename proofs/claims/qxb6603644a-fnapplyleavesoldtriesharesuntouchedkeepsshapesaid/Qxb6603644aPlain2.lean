/-
  THE PLAIN SIDE, second part: settle; which routes a trie holds behind apply.
-/
import Derived.Test.Qxb6603644aPlain
namespace Go.Proofs.Qxb6603644a
open Go

/-- the last of its key -/
def Last (ks : List K) (x : K) : Prop := ∀ y ∈ ks, same y.r x.r → y.seq ≤ x.seq
/-- an id comes with one hash -/
def OneHash (rs : List R) : Prop := ∀ a ∈ rs, ∀ b ∈ rs, a.id = b.id → a.hash = b.hash

theorem settle_sub : ∀ ks : List K, (settle ks).Sublist ks
  | [] => .slnil
  | [k] => by
    unfold settle
    split
    · exact List.Sublist.refl _
    · exact List.nil_sublist _
  | k :: k' :: ks => by
    unfold settle
    split
    · exact (settle_sub (k' :: ks)).cons_cons k
    · exact (settle_sub (k' :: ks)).cons k

theorem mem_settle : ∀ (ks : List K), ks.Pairwise ksl → OneHash (ks.map K.r) → ∀ x, x ∈ settle ks ↔ x ∈ ks ∧ Last ks x ∧ x.put = true
  | [], _, _, x => by simp [settle]
  | [k], _, _, x => by
    unfold settle
    split
    · rename_i hp
      constructor
      · intro h
        obtain rfl : x = k := by simpa using h
        exact ⟨by simp, fun y hy _ => by
          obtain rfl : y = x := by simpa using hy
          exact Int.le_refl _, hp⟩
      · rintro ⟨h, _, _⟩; exact h
    · rename_i hp
      constructor
      · intro h; simp at h
      · rintro ⟨h, _, h2⟩
        obtain rfl : x = k := by simpa using h
        exact absurd h2 hp
  | k :: k' :: ks, hs, ho, x => by
    have hs' := List.pairwise_cons.1 hs
    have ho' : OneHash ((k' :: ks).map K.r) := fun a ha b hb => ho a (List.mem_cons_of_mem _ ha) b (List.mem_cons_of_mem _ hb)
    have ih := mem_settle (k' :: ks) hs'.2 ho' x
    have htail : x ∈ k' :: ks → (Last (k :: k' :: ks) x ↔ Last (k' :: ks) x) := by
      intro hx
      constructor
      · intro h y hy; exact h y (List.mem_cons_of_mem _ hy)
      · intro h y hy hsame
        rcases List.mem_cons.1 hy with rfl | hy
        · rcases hs'.1 x hx with h1 | ⟨_, h1⟩
          · exact absurd hsame (klt_not_same h1)
          · omega
        · exact h y hy hsame
    by_cases hid : k'.r.id = k.r.id
    · have hsame : same k.r k'.r := ⟨ho k.r (by simp) k'.r (by simp) hid.symm, hid.symm⟩
      have hlt : k.seq < k'.seq := by
        rcases hs'.1 k' (by simp) with h1 | ⟨_, h1⟩
        · exact absurd hsame (klt_not_same h1)
        · exact h1
      unfold settle
      rw [if_neg (fun h => h.1 hid), ih]
      constructor
      · rintro ⟨h1, h2, h3⟩
        exact ⟨List.mem_cons_of_mem _ h1, (htail h1).2 h2, h3⟩
      · rintro ⟨h1, h2, h3⟩
        rcases List.mem_cons.1 h1 with rfl | h1
        · have := h2 k' (by simp) (same_symm hsame)
          omega
        · exact ⟨h1, (htail h1).1 h2, h3⟩
    · have hk : Last (k :: k' :: ks) k := by
        have h1 : klt k.r k'.r := by
          rcases hs'.1 k' (by simp) with h1 | ⟨h1, _⟩
          · exact h1
          · exact absurd h1.2.symm hid
        intro y hy hsame
        rcases List.mem_cons.1 hy with rfl | hy
        · exact Int.le_refl _
        · exfalso
          rcases List.mem_cons.1 hy with rfl | hy
          · exact klt_not_same h1 (same_symm hsame)
          · rcases (List.pairwise_cons.1 hs'.2).1 y hy with h2 | ⟨h2, _⟩
            · exact klt_not_same (klt_trans h1 h2) (same_symm hsame)
            · exact klt_not_same (klt_same h1 h2) (same_symm hsame)
      have hnot : x ∈ k' :: ks → x ≠ k := fun hx e => ksl_irrefl k (e ▸ hs'.1 x hx)
      unfold settle
      by_cases hp : k.put = true
      · rw [if_pos ⟨hid, hp⟩, List.mem_cons, ih]
        constructor
        · rintro (rfl | ⟨h1, h2, h3⟩)
          · exact ⟨by simp, hk, hp⟩
          · exact ⟨List.mem_cons_of_mem _ h1, (htail h1).2 h2, h3⟩
        · rintro ⟨h1, h2, h3⟩
          rcases List.mem_cons.1 h1 with rfl | h1
          · exact .inl rfl
          · exact .inr ⟨h1, (htail h1).1 h2, h3⟩
      · rw [if_neg (fun h => hp h.2), ih]
        constructor
        · rintro ⟨h1, h2, h3⟩
          exact ⟨List.mem_cons_of_mem _ h1, (htail h1).2 h2, h3⟩
        · rintro ⟨h1, h2, h3⟩
          rcases List.mem_cons.1 h1 with rfl | h1
          · exact absurd h3 hp
          · exact ⟨h1, (htail h1).1 h2, h3⟩

theorem settle_klt (ks : List K) (hs : ks.Pairwise ksl) (ho : OneHash (ks.map K.r)) : ((settle ks).map K.r).Pairwise klt := by
  rw [List.pairwise_map]
  refine List.Pairwise.imp_of_mem ?_ (hs.sublist (settle_sub ks))
  intro a b ha hb hab
  rcases hab with h | ⟨h1, h2⟩
  · exact h
  · have h3 := ((mem_settle ks hs ho a).1 ha).2.1 b ((mem_settle ks hs ho b).1 hb).1 (same_symm h1)
    omega

/-- what a trie that held rs holds behind the changes ks -/
def Res (rs : List R) (ks : List K) (r : R) : Prop := (∃ k ∈ ks, Last ks k ∧ k.put = true ∧ k.r = r) ∨ (r ∈ rs ∧ ∀ k ∈ ks, ¬ same k.r r)

theorem res_nil {rs : List R} {r : R} : Res rs [] r ↔ r ∈ rs := by simp [Res]

theorem res_settle (rs : List R) (ks ms : List K) (hp : ms.Perm (rs.map heldK ++ ks)) (hs : ms.Pairwise ksl) (ho : OneHash (rs ++ ks.map K.r)) (hseq : ∀ k ∈ ks, 0 ≤ k.seq) (r : R) :
    r ∈ (settle ms).map K.r ↔ Res rs ks r := by
  have hmem : ∀ x, x ∈ ms ↔ (∃ r ∈ rs, heldK r = x) ∨ x ∈ ks := fun x => by rw [hp.mem_iff, List.mem_append, List.mem_map]
  have ho' : OneHash (ms.map K.r) := by
    have hsub : ∀ a, a ∈ ms.map K.r → a ∈ rs ++ ks.map K.r := by
      intro a ha
      obtain ⟨k, hk, rfl⟩ := List.mem_map.1 ha
      rcases (hmem k).1 hk with ⟨r, hr, rfl⟩ | hk
      · exact List.mem_append_left _ hr
      · exact List.mem_append_right _ (List.mem_map_of_mem hk)
    exact fun a ha b hb => ho a (hsub a ha) b (hsub b hb)
  rw [List.mem_map]
  constructor
  · rintro ⟨k, hk, rfl⟩
    obtain ⟨h1, h2, h3⟩ := (mem_settle ms hs ho' k).1 hk
    rcases (hmem k).1 h1 with ⟨r, hr, rfl⟩ | h1
    · refine .inr ⟨hr, fun y hy hsame => ?_⟩
      have := h2 y ((hmem y).2 (.inr hy)) hsame
      have := hseq y hy
      simp only [heldK] at *
      omega
    · exact .inl ⟨k, h1, fun y hy => h2 y ((hmem y).2 (.inr hy)), h3, rfl⟩
  · rintro (⟨k, hk, hl, hput, rfl⟩ | ⟨hr, hno⟩)
    · refine ⟨k, (mem_settle ms hs ho' k).2 ⟨(hmem k).2 (.inr hk), fun y hy hsame => ?_, hput⟩, rfl⟩
      rcases (hmem y).1 hy with ⟨r, _, rfl⟩ | hy
      · have := hseq k hk
        simp only [heldK]
        omega
      · exact hl y hy hsame
    · refine ⟨heldK r, (mem_settle ms hs ho' _).2 ⟨(hmem _).2 (.inl ⟨r, hr, rfl⟩), fun y hy hsame => ?_, rfl⟩, rfl⟩
      rcases (hmem y).1 hy with ⟨r', _, rfl⟩ | hy
      · exact Int.le_refl _
      · exact absurd hsame (hno y hy)

theorem perm_self_held (ks : List K) : ks.Perm (([] : List R).map heldK ++ ks) := by simp

theorem sum_le (f g : Nat → Nat) : ∀ (l : List Nat), (∀ i ∈ l, f i ≤ g i) → (l.map f).sum ≤ (l.map g).sum
  | [], _ => Nat.le_refl _
  | a :: l, h => by
    have h1 := h a (by simp)
    have h2 := sum_le f g l (fun i hi => h i (by simp [hi]))
    simp only [List.map_cons, List.sum_cons]
    omega
theorem sum_add (f g : Nat → Nat) : ∀ (l : List Nat), (l.map fun i => f i + g i).sum = (l.map f).sum + (l.map g).sum
  | [] => rfl
  | a :: l => by
    have h2 := sum_add f g l
    simp only [List.map_cons, List.sum_cons]
    omega

theorem one_sum : ∀ m, m < 16 → ((List.range 16).map fun i => if m = i then 1 else 0).sum = 1 := by decide
theorem sum_slots (d : Nat) : ∀ (ks : List K), ((List.range 16).map fun i => (kInSlot d i ks).length).sum = ks.length := by
  intro ks
  induction ks with
  | nil => exact (rfl : ((List.range 16).map fun _ => 0).sum = 0)
  | cons k ks ih =>
    have h3 := slot_range k.r.hash (4 * (d + 1))
    obtain ⟨m, hm, hm16⟩ : ∃ m : Nat, slotOf k.r.hash (4 * (d + 1)) = (m : Int) ∧ m < 16 := ⟨(slotOf k.r.hash (4 * (d + 1))).toNat, by omega, by omega⟩
    have hone : ∀ i, (kInSlot d i (k :: ks)).length = (kInSlot d i ks).length + (if m = i then 1 else 0) := by
      intro i
      unfold kInSlot
      rw [List.filter_cons, hm]
      by_cases h : m = i
      · subst h; simp
      · have : ((m : Int) == (i : Int)) = false := by simp; omega
        simp [this, h]
    simp only [hone]
    rw [sum_add, ih, one_sum m hm16, List.length_cons]

theorem bld_case (d : Nat) (P : Int) (rs : List R) (ks ms : List K) (t' : Tr) (hp : ms.Perm (rs.map heldK ++ ks)) (hs : ms.Pairwise ksl) (ho : OneHash (rs ++ ks.map K.r)) (hseq : ∀ k ∈ ks, 0 ≤ k.seq)
    (h1 : ∀ r ∈ rs, r.hash / 2 ^ (4 * d) = P) (h2 : ∀ k ∈ ks, k.r.hash / 2 ^ (4 * d) = P) (hb : BldR d ((settle ms).map K.r) t') :
    Good t' d P ∧ (∀ r, r ∈ t'.collect ↔ Res rs ks r) ∧ t'.cnt ≤ rs.length + ks.length := by
  have hmem : ∀ x, x ∈ ms ↔ (∃ r ∈ rs, heldK r = x) ∨ x ∈ ks := fun x => by rw [hp.mem_iff, List.mem_append, List.mem_map]
  have ho' : OneHash (ms.map K.r) := by
    have hsub : ∀ a, a ∈ ms.map K.r → a ∈ rs ++ ks.map K.r := by
      intro a ha
      obtain ⟨k, hk, rfl⟩ := List.mem_map.1 ha
      rcases (hmem k).1 hk with ⟨r, hr, rfl⟩ | hk
      · exact List.mem_append_left _ hr
      · exact List.mem_append_right _ (List.mem_map_of_mem hk)
    exact fun a ha b hb => ho a (hsub a ha) b (hsub b hb)
  have hpre : ∀ r ∈ (settle ms).map K.r, r.hash / 2 ^ (4 * d) = P := by
    intro r hr
    obtain ⟨k, hk, rfl⟩ := List.mem_map.1 hr
    rcases (hmem k).1 ((settle_sub ms).mem hk) with ⟨r', hr', rfl⟩ | hk
    · exact h1 r' hr'
    · exact h2 k hk
  obtain ⟨hg, hc⟩ := bld_good d P _ t' (settle_klt ms hs ho') hpre hb
  refine ⟨hg, fun r => ?_, ?_⟩
  · rw [hc]; exact res_settle rs ks ms hp hs ho hseq r
  · have h3 := (good_all t' d P hg).2.2
    have h4 := (settle_sub ms).length_le
    have h5 := hp.length_eq
    rw [h3, hc]
    simp at h5 ⊢
    omega

theorem ap_good : ∀ (d : Nat) (P : Int) (t : Tr) (ks : List K) (t' : Tr), Good t d P → ks.Pairwise ksl → (∀ k ∈ ks, k.r.hash / 2 ^ (4 * d) = P) → (∀ k ∈ ks, 0 ≤ k.seq) → OneHash (t.collect ++ ks.map K.r) → ApR d t ks t' →
    Good t' d P ∧ (∀ r, r ∈ t'.collect ↔ Res t.collect ks r) ∧ t'.cnt ≤ t.cnt + ks.length := by
  intro d
  induction d with
  | zero =>
    intro P t ks t' hg hs hp hseq ho h
    cases t with
    | nil =>
      unfold ApR at h
      rcases h with ⟨rfl, rfl⟩ | ⟨hne, hb⟩
      · exact ⟨hg, fun r => res_nil.symm, by simp⟩
      · have := bld_case 0 P [] ks ks t' (perm_self_held ks) hs ho hseq (by simp) hp hb
        simpa [Tr.collect, Tr.cnt] using this
    | leaf g rs =>
      unfold ApR at h
      rcases h with ⟨rfl, rfl⟩ | ⟨hne, ms, hpm, hms, hb⟩
      · exact ⟨hg, fun r => res_nil.symm, by simp⟩
      · exact bld_case 0 P rs ks ms t' hpm hms ho hseq hg.2.2.2 hp hb
    | inner g ch c =>
      obtain ⟨d', hd, _⟩ := hg
      omega
  | succ d ih =>
    intro P t ks t' hg hs hp hseq ho h
    cases t with
    | nil =>
      unfold ApR at h
      rcases h with ⟨rfl, rfl⟩ | ⟨hne, hb⟩
      · exact ⟨hg, fun r => res_nil.symm, by simp⟩
      · have := bld_case (d + 1) P [] ks ks t' (perm_self_held ks) hs ho hseq (by simp) hp hb
        simpa [Tr.collect, Tr.cnt] using this
    | leaf g rs =>
      unfold ApR at h
      rcases h with ⟨rfl, rfl⟩ | ⟨hne, ms, hpm, hms, hb⟩
      · exact ⟨hg, fun r => res_nil.symm, by simp⟩
      · exact bld_case (d + 1) P rs ks ms t' hpm hms ho hseq hg.2.2.2 hp hb
    | inner g ch c =>
      have hgg := hg
      obtain ⟨d', hd, h32, hc, hch⟩ := hg
      obtain rfl : d = d' := by omega
      unfold ApR at h
      rcases h with ⟨rfl, rfl⟩ | ⟨hne, ch', hch', hres⟩
      · exact ⟨hgg, fun r => res_nil.symm, by simp⟩
      · have hi := fun (i : Nat) (hi : i < 16) => ih (P * 16 + i) (ch i) (kInSlot d i ks) (ch' i) (hch i hi) (hs.filter _) (fun k hk => by
          obtain ⟨h1, h2⟩ := mem_kInSlot.1 hk
          have h3 := cut16 k.r.hash d
          rw [hp k h1, h2] at h3
          exact h3) (fun k hk => hseq k (mem_kInSlot.1 hk).1) (by
            have hsub : ∀ a, a ∈ (ch i).collect ++ (kInSlot d i ks).map K.r → a ∈ (Tr.inner g ch c).collect ++ ks.map K.r := by
              intro a ha
              rcases List.mem_append.1 ha with ha | ha
              · exact List.mem_append_left _ (by simp only [Tr.collect, List.mem_flatMap]; exact ⟨i, List.mem_range.2 hi, ha⟩)
              · obtain ⟨k, hk, rfl⟩ := List.mem_map.1 ha
                exact List.mem_append_right _ (List.mem_map_of_mem (mem_kInSlot.1 hk).1)
            exact fun a ha b hb => ho a (hsub a ha) b (hsub b hb)) (hch' i hi)
        have hcnt : sumC ch' ≤ c + ks.length := by
          rw [hc, ← sum_slots d ks, sumC, sumC, ← sum_add]
          exact sum_le _ _ _ fun i h => (hi i (List.mem_range.1 h)).2.2
        have hcol : (Tr.inner 0 ch' (sumC ch')).collect = (List.range 16).flatMap fun i => (ch' i).collect := by simp only [Tr.collect]
        have hslot : ∀ r, r ∈ (Tr.inner g ch c).collect → ∀ i : Nat, i < 16 → slotOf r.hash (4 * (d + 1)) = (i : Int) → r ∈ (ch i).collect := by
          intro r hr i hi hsl
          simp only [Tr.collect, List.mem_flatMap] at hr
          obtain ⟨j, hj, hr⟩ := hr
          have h1 := (good_all _ _ _ (hch j (List.mem_range.1 hj))).2.1 r hr
          have h2 := (good_all _ _ _ hgg).2.1 r (by simp only [Tr.collect, List.mem_flatMap]; exact ⟨j, hj, hr⟩)
          have h3 := cut16 r.hash d
          rw [h1, h2, hsl] at h3
          obtain rfl : j = i := by omega
          exact hr
        have hmem : ∀ r, r ∈ ((List.range 16).flatMap fun i => (ch' i).collect) ↔ Res (Tr.inner g ch c).collect ks r := by
          intro r
          rw [List.mem_flatMap]
          constructor
          · rintro ⟨i, hir, hr⟩
            have hi16 := List.mem_range.1 hir
            rcases ((hi i hi16).2.1 r).1 hr with ⟨k, hk, hl, hput, rfl⟩ | ⟨hr, hno⟩
            · obtain ⟨hk1, hk2⟩ := mem_kInSlot.1 hk
              refine .inl ⟨k, hk1, fun y hy hsame => hl y (mem_kInSlot.2 ⟨hy, by rw [hsame.1]; exact hk2⟩) hsame, hput, rfl⟩
            · have hr' : r ∈ (Tr.inner g ch c).collect := by simp only [Tr.collect, List.mem_flatMap]; exact ⟨i, hir, hr⟩
              refine .inr ⟨hr', fun k hk hsame => hno k (mem_kInSlot.2 ⟨hk, ?_⟩) hsame⟩
              have h1 := (good_all _ _ _ (hch i hi16)).2.1 r hr
              have h2 := (good_all _ _ _ hgg).2.1 r hr'
              have h3 := cut16 r.hash d
              rw [h1, h2] at h3
              rw [hsame.1]
              omega
          · intro h
            have h3 := slot_range r.hash (4 * (d + 1))
            obtain ⟨i, hsl, hi16⟩ : ∃ i : Nat, slotOf r.hash (4 * (d + 1)) = (i : Int) ∧ i < 16 := ⟨(slotOf r.hash (4 * (d + 1))).toNat, by omega, by omega⟩
            refine ⟨i, List.mem_range.2 hi16, ((hi i hi16).2.1 r).2 ?_⟩
            rcases h with ⟨k, hk, hl, hput, rfl⟩ | ⟨hr, hno⟩
            · exact .inl ⟨k, mem_kInSlot.2 ⟨hk, hsl⟩, fun y hy hsame => hl y (mem_kInSlot.1 hy).1 hsame, hput, rfl⟩
            · exact .inr ⟨hslot r hr i hi16 hsl, fun k hk => hno k (mem_kInSlot.1 hk).1⟩
        rcases hres with ⟨hgt, g', rfl⟩ | ⟨hle, hb⟩
        · exact ⟨⟨d, rfl, hgt, rfl, fun i h => (hi i h).1⟩, by simpa only [Tr.collect] using hmem, hcnt⟩
        · have hpw : ((List.range 16).flatMap fun i => (ch' i).collect).Pairwise klt := by
            rw [List.pairwise_flatMap]
            refine ⟨fun i hir => (good_all _ _ _ (hi i (List.mem_range.1 hir)).1).1, ?_⟩
            refine List.Pairwise.imp_of_mem ?_ (List.pairwise_lt_range (n := 16))
            intro i j hir hjr hij x hx y hy
            have h1 := (good_all _ _ _ (hi i (List.mem_range.1 hir)).1).2.1 x hx
            have h2 := (good_all _ _ _ (hi j (List.mem_range.1 hjr)).1).2.1 y hy
            exact .inl (lt_of_cut (d := d) (by rw [h1, h2]; omega))
          have hpr : ∀ r ∈ ((List.range 16).flatMap fun i => (ch' i).collect), r.hash / 2 ^ (4 * (d + 1)) = P := by
            intro r hr
            rcases (hmem r).1 hr with ⟨k, hk, _, _, rfl⟩ | ⟨hr, _⟩
            · exact hp k hk
            · exact (good_all _ _ _ hgg).2.1 r hr
          obtain ⟨hg', hc'⟩ := bld_good (d + 1) P _ t' hpw hpr hb
          refine ⟨hg', by rw [hc']; exact hmem, ?_⟩
          have h3 := (good_all t' _ P hg').2.2
          have h4 : sumC ch' = t'.collect.length := by
            rw [hc', List.length_flatMap, sumC]
            congr 1
            exact List.map_congr_left fun i hir => (good_all _ _ _ (hi i (List.mem_range.1 hir)).1).2.2
          have h5 : (Tr.inner g ch c).cnt = c := rfl
          omega
end Go.Proofs.Qxb6603644a
