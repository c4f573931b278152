/-
  THE PLAIN SIDE: routes, changes, tries; what build and apply make; which routes a trie holds behind apply.
-/
import Derived.WalkKit
namespace Go.Proofs.Qxb6603644a
open Go

/-- a route under its hash: 14 texts (the first is the id), 4 numbers -/
structure R where
  hash : Int
  tx : Nat → ByteArray
  nm : Nat → Int
instance : Inhabited R := ⟨⟨0, fun _ => ByteArray.empty, fun _ => 0⟩⟩
def R.id (r : R) : List UInt8 := (r.tx 0).data.toList

/-- a change -/
structure K where
  r : R
  seq : Int
  put : Bool
instance : Inhabited K := ⟨⟨default, 0, false⟩⟩

/-- by hash, then by id -/
def klt (a b : R) : Prop := a.hash < b.hash ∨ (a.hash = b.hash ∧ a.id < b.id)
def same (a b : R) : Prop := a.hash = b.hash ∧ a.id = b.id
/-- by hash, id, seq -/
def ksl (a b : K) : Prop := klt a.r b.r ∨ (same a.r b.r ∧ a.seq < b.seq)

theorem ltL_irrefl (x : List UInt8) : ¬ x < x := List.lt_irrefl x
theorem klt_irrefl (a : R) : ¬ klt a a := by
  rintro (h | ⟨_, h⟩)
  · omega
  · exact ltL_irrefl _ h
theorem klt_trans {a b c : R} (h1 : klt a b) (h2 : klt b c) : klt a c := by
  rcases h1 with h1 | ⟨e1, h1⟩ <;> rcases h2 with h2 | ⟨e2, h2⟩
  · exact .inl (by omega)
  · exact .inl (by omega)
  · exact .inl (by omega)
  · exact .inr ⟨by omega, List.lt_trans h1 h2⟩
theorem klt_same {a b c : R} (h1 : klt a b) (h2 : same b c) : klt a c := by
  rcases h1 with h1 | ⟨e1, h1⟩
  · exact .inl (by rw [← h2.1]; exact h1)
  · exact .inr ⟨by rw [← h2.1]; exact e1, by rw [← h2.2]; exact h1⟩
theorem same_klt {a b c : R} (h1 : same a b) (h2 : klt b c) : klt a c := by
  rcases h2 with h2 | ⟨e2, h2⟩
  · exact .inl (by rw [h1.1]; exact h2)
  · exact .inr ⟨by rw [h1.1]; exact e2, by rw [h1.2]; exact h2⟩
theorem klt_not_same {a b : R} (h : klt a b) : ¬ same a b := fun hs => klt_irrefl b (same_klt ⟨hs.1.symm, hs.2.symm⟩ h)
theorem same_symm {a b : R} (h : same a b) : same b a := ⟨h.1.symm, h.2.symm⟩
theorem same_trans {a b c : R} (h : same a b) (h2 : same b c) : same a c := ⟨h.1.trans h2.1, h.2.trans h2.2⟩
theorem klt_tri (a b : R) : klt a b ∨ same a b ∨ klt b a := by
  rcases Int.lt_trichotomy a.hash b.hash with h | h | h
  · exact .inl (.inl h)
  · by_cases h1 : a.id < b.id
    · exact .inl (.inr ⟨h, h1⟩)
    · by_cases h2 : b.id < a.id
      · exact .inr (.inr (.inr ⟨h.symm, h2⟩))
      · exact .inr (.inl ⟨h, List.le_antisymm (List.not_lt.1 h2) (List.not_lt.1 h1)⟩)
  · exact .inr (.inr (.inl h))
theorem ksl_trans {a b c : K} (h1 : ksl a b) (h2 : ksl b c) : ksl a c := by
  rcases h1 with h1 | ⟨e1, h1⟩ <;> rcases h2 with h2 | ⟨e2, h2⟩
  · exact .inl (klt_trans h1 h2)
  · exact .inl (klt_same h1 e2)
  · exact .inl (same_klt e1 h2)
  · exact .inr ⟨same_trans e1 e2, by omega⟩
theorem ksl_irrefl (a : K) : ¬ ksl a a := by
  rintro (h | ⟨_, h⟩)
  · exact klt_irrefl _ h
  · omega

/-- two lists in one strict order with the same members are equal -/
theorem eq_of_mem {α : Type} {lt : α → α → Prop} (irr : ∀ a, ¬ lt a a) (tr : ∀ {a b c}, lt a b → lt b c → lt a c) :
    ∀ {l m : List α}, l.Pairwise lt → m.Pairwise lt → (∀ x, x ∈ l ↔ x ∈ m) → l = m
  | [], [], _, _, _ => rfl
  | [], b :: m, _, _, h => absurd ((h b).2 (by simp)) (by simp)
  | a :: l, [], _, _, h => absurd ((h a).1 (by simp)) (by simp)
  | a :: l, b :: m, hl, hm, h => by
    rw [List.pairwise_cons] at hl hm
    have hab : a = b := by
      have h1 := (h a).1 (by simp)
      have h2 := (h b).2 (by simp)
      rcases List.mem_cons.1 h1 with e | h1
      · exact e
      · rcases List.mem_cons.1 h2 with e | h2
        · exact e.symm
        · exact absurd (tr (hl.1 b h2) (hm.1 a h1)) (irr a)
    subst hab
    congr 1
    refine eq_of_mem irr tr hl.2 hm.2 fun x => ⟨fun hx => ?_, fun hx => ?_⟩
    · rcases List.mem_cons.1 ((h x).1 (by simp [hx])) with e | h1
      · subst e; exact absurd (hl.1 _ hx) (irr _)
      · exact h1
    · rcases List.mem_cons.1 ((h x).2 (by simp [hx])) with e | h1
      · subst e; exact absurd (hm.1 _ hx) (irr _)
      · exact h1

/-- a trie: labels are the nodes' blocks -/
inductive Tr where
  | nil : Tr
  | leaf (g : Nat) (rs : List R) : Tr
  | inner (g : Nat) (ch : Nat → Tr) (cnt : Nat) : Tr
instance : Inhabited Tr := ⟨.nil⟩
def Tr.cnt : Tr → Nat
  | .nil => 0
  | .leaf _ rs => rs.length
  | .inner _ _ c => c
def Tr.collect : Tr → List R
  | .nil => []
  | .leaf _ rs => rs
  | .inner _ ch _ => (List.range 16).flatMap fun i => (ch i).collect

def slotOf (h : Int) (s : Nat) : Int := h / 2 ^ (s - 4) % 16
/-- those that slot i leads to -/
def inSlot (d : Nat) (i : Nat) (rs : List R) : List R := rs.filter fun r => slotOf r.hash (4 * (d + 1)) == (i : Int)
def kInSlot (d : Nat) (i : Nat) (ks : List K) : List K := ks.filter fun k => slotOf k.r.hash (4 * (d + 1)) == (i : Int)

def BldR : Nat → List R → Tr → Prop
  | 0, rs, t => (rs = [] ∧ t = .nil) ∨ (rs ≠ [] ∧ ∃ g, t = .leaf g rs)
  | d + 1, rs, t => (rs = [] ∧ t = .nil) ∨ (rs ≠ [] ∧ rs.length ≤ 32 ∧ ∃ g, t = .leaf g rs) ∨
      (32 < rs.length ∧ ∃ g ch, t = .inner g ch rs.length ∧ ∀ i, i < 16 → BldR d (inSlot d i rs) (ch i))

def settle : List K → List K
  | [] => []
  | [k] => if k.put = true then [k] else []
  | k :: k' :: ks => if k'.r.id ≠ k.r.id ∧ k.put = true then k :: settle (k' :: ks) else settle (k' :: ks)

def heldK (r : R) : K := ⟨r, -1, true⟩
def sumC (ch : Nat → Tr) : Nat := ((List.range 16).map fun i => (ch i).cnt).sum

def ApR : Nat → Tr → List K → Tr → Prop
  | d, .nil, ks, t' => (ks = [] ∧ t' = .nil) ∨ (ks ≠ [] ∧ BldR d ((settle ks).map K.r) t')
  | d, .leaf g rs, ks, t' => (ks = [] ∧ t' = .leaf g rs) ∨ (ks ≠ [] ∧ ∃ ms : List K, ms.Perm (rs.map heldK ++ ks) ∧ ms.Pairwise ksl ∧ BldR d ((settle ms).map K.r) t')
  | 0, .inner g ch c, ks, t' => ks = [] ∧ t' = .inner g ch c
  | d + 1, .inner g ch c, ks, t' => (ks = [] ∧ t' = .inner g ch c) ∨ (ks ≠ [] ∧ ∃ ch' : Nat → Tr, (∀ i, i < 16 → ApR d (ch i) (kInSlot d i ks) (ch' i)) ∧
      ((32 < sumC ch' ∧ ∃ g', t' = .inner g' ch' (sumC ch')) ∨ (sumC ch' ≤ 32 ∧ BldR (d + 1) ((List.range 16).flatMap fun i => (ch' i).collect) t')))

/-- the documented shape, P the hashes' bits above -/
def Good : Tr → Nat → Int → Prop
  | .nil, _, _ => True
  | .leaf _ rs, d, P => rs ≠ [] ∧ (d ≠ 0 → rs.length ≤ 32) ∧ rs.Pairwise klt ∧ ∀ r ∈ rs, r.hash / 2 ^ (4 * d) = P
  | .inner _ ch c, d, P => ∃ d', d = d' + 1 ∧ 32 < c ∧ c = sumC ch ∧ ∀ i, i < 16 → Good (ch i) d' (P * 16 + i)

theorem cut16 (h : Int) (d : Nat) : h / 2 ^ (4 * d) = h / 2 ^ (4 * (d + 1)) * 16 + slotOf h (4 * (d + 1)) := by
  have e : (2 : Int) ^ (4 * (d + 1)) = 2 ^ (4 * d) * 16 := by rw [show 4 * (d + 1) = 4 * d + 4 by omega, Int.pow_add]; rfl
  unfold slotOf
  rw [show 4 * (d + 1) - 4 = 4 * d by omega, e, ← Int.ediv_ediv_of_nonneg (Int.le_of_lt (Int.pow_pos (by decide)))]
  omega
theorem slot_range (h : Int) (s : Nat) : 0 ≤ slotOf h s ∧ slotOf h s < 16 := by unfold slotOf; omega
theorem lt_of_cut {h h' : Int} {d : Nat} (hl : h / 2 ^ (4 * d) < h' / 2 ^ (4 * d)) : h < h' := by
  rcases Int.lt_or_le h h' with h1 | h1
  · exact h1
  · have := Int.ediv_le_ediv (a := h') (b := h) (c := 2 ^ (4 * d)) (Int.pow_pos (by decide)) h1
    omega

theorem good_all : ∀ (t : Tr) (d : Nat) (P : Int), Good t d P → t.collect.Pairwise klt ∧ (∀ r ∈ t.collect, r.hash / 2 ^ (4 * d) = P) ∧ t.cnt = t.collect.length
  | .nil, _, _, _ => ⟨.nil, by simp [Tr.collect], rfl⟩
  | .leaf _ rs, d, P, h => ⟨h.2.2.1, h.2.2.2, rfl⟩
  | .inner g ch c, d, P, h => by
    obtain ⟨d', rfl, h32, hc, hch⟩ := h
    have ih := fun i hi => good_all (ch i) d' (P * 16 + i) (hch i hi)
    refine ⟨?_, ?_, ?_⟩
    · unfold Tr.collect
      rw [List.pairwise_flatMap]
      refine ⟨fun i hi => (ih i (List.mem_range.1 hi)).1, ?_⟩
      refine List.Pairwise.imp_of_mem ?_ (List.pairwise_lt_range (n := 16))
      intro i j hi hj hij x hx y hy
      have h1 := (ih i (List.mem_range.1 hi)).2.1 x hx
      have h2 := (ih j (List.mem_range.1 hj)).2.1 y hy
      exact .inl (lt_of_cut (d := d') (by rw [h1, h2]; omega))
    · intro r hr
      simp only [Tr.collect, List.mem_flatMap] at hr
      obtain ⟨i, hi, hr⟩ := hr
      have h1 := (ih i (List.mem_range.1 hi)).2.1 r hr
      have h2 := cut16 r.hash d'
      have h3 := slot_range r.hash (4 * (d' + 1))
      have h4 := List.mem_range.1 hi
      omega
    · simp only [Tr.cnt, Tr.collect, hc, sumC, List.length_flatMap]
      congr 1
      refine List.map_congr_left fun i hi => (ih i (List.mem_range.1 hi)).2.2

theorem mem_inSlot {d i : Nat} {rs : List R} {r : R} : r ∈ inSlot d i rs ↔ r ∈ rs ∧ slotOf r.hash (4 * (d + 1)) = (i : Int) := by simp [inSlot, List.mem_filter]
theorem mem_kInSlot {d i : Nat} {ks : List K} {k : K} : k ∈ kInSlot d i ks ↔ k ∈ ks ∧ slotOf k.r.hash (4 * (d + 1)) = (i : Int) := by simp [kInSlot, List.mem_filter]

theorem bld_good : ∀ (d : Nat) (P : Int) (rs : List R) (t : Tr), rs.Pairwise klt → (∀ r ∈ rs, r.hash / 2 ^ (4 * d) = P) → BldR d rs t → Good t d P ∧ t.collect = rs
  | 0, P, rs, t, hs, hp, h => by
    rcases h with ⟨rfl, rfl⟩ | ⟨hne, g, rfl⟩
    · exact ⟨trivial, rfl⟩
    · exact ⟨⟨hne, fun h => absurd rfl h, hs, hp⟩, rfl⟩
  | d + 1, P, rs, t, hs, hp, h => by
    rcases h with ⟨rfl, rfl⟩ | ⟨hne, h32, g, rfl⟩ | ⟨h32, g, ch, rfl, hch⟩
    · exact ⟨trivial, rfl⟩
    · exact ⟨⟨hne, fun _ => h32, hs, hp⟩, rfl⟩
    · have ih := fun (i : Nat) (hi : i < 16) => bld_good d (P * 16 + i) (inSlot d i rs) (ch i) (hs.filter _) (fun r hr => by
        obtain ⟨h1, h2⟩ := mem_inSlot.1 hr
        have h3 := cut16 r.hash d
        have h4 := hp r h1
        rw [h4, h2] at h3
        exact h3) (hch i hi)
      have hg : ((List.range 16).flatMap fun i => (ch i).collect).Pairwise klt := by
        rw [List.pairwise_flatMap]
        refine ⟨fun i hi => (good_all _ _ _ (ih i (List.mem_range.1 hi)).1).1, ?_⟩
        refine List.Pairwise.imp_of_mem ?_ (List.pairwise_lt_range (n := 16))
        intro i j hi hj hij x hx y hy
        have h1 := (good_all _ _ _ (ih i (List.mem_range.1 hi)).1).2.1 x hx
        have h2 := (good_all _ _ _ (ih j (List.mem_range.1 hj)).1).2.1 y hy
        exact .inl (lt_of_cut (d := d) (by rw [h1, h2]; omega))
      have hcol : ((List.range 16).flatMap fun i => (ch i).collect) = rs := by
        refine eq_of_mem klt_irrefl klt_trans hg hs fun x => ?_
        simp only [List.mem_flatMap]
        constructor
        · rintro ⟨i, hi, hx⟩
          rw [(ih i (List.mem_range.1 hi)).2] at hx
          exact (mem_inSlot.1 hx).1
        · intro hx
          have h3 := slot_range x.hash (4 * (d + 1))
          have hi : (slotOf x.hash (4 * (d + 1))).toNat < 16 := by omega
          refine ⟨_, List.mem_range.2 hi, ?_⟩
          rw [(ih _ hi).2]
          exact mem_inSlot.2 ⟨hx, by omega⟩
      refine ⟨⟨d, rfl, h32, ?_, fun i hi => (ih i hi).1⟩, hcol⟩
      have h1 := congrArg List.length hcol
      rw [List.length_flatMap] at h1
      rw [← h1, sumC]
      congr 1
      exact List.map_congr_left fun i hi => (good_all _ _ _ (ih i (List.mem_range.1 hi)).1).2.2.symm
end Go.Proofs.Qxb6603644a
