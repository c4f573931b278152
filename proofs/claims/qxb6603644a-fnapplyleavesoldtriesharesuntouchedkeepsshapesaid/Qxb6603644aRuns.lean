/-
  THE PLAIN SIDE of bySlot's runs: where each lies, and that the runs are the slots' own changes.
-/
import Derived.Test.Qxb6603644aEnts
import Derived.Test.Qxb6603644aPlain2
namespace Go.Proofs.Qxb6603644a

theorem runTo_spec (cs : List C) (s : Nat) (i : Int) : ∀ (f p : Nat), p ≤ cs.length → cs.length - p ≤ f → (∀ q, p ≤ q → q < runTo cs s i f p → slotOf (cAt cs q).hash s = i) ∧ (runTo cs s i f p = cs.length ∨ slotOf (cAt cs (runTo cs s i f p)).hash s ≠ i)
  | 0, p, hp, hf => ⟨fun q h1 h2 => by simp [runTo] at h2; omega, .inl (by simp [runTo]; omega)⟩
  | f + 1, p, hp, hf => by
    unfold runTo
    by_cases h : p < cs.length ∧ slotOf (cAt cs p).hash s = i
    · rw [if_pos h]
      obtain ⟨h1, h2⟩ := runTo_spec cs s i f (p + 1) (by omega) (by omega)
      refine ⟨fun q hq1 hq2 => ?_, h2⟩
      by_cases e : q = p
      · rw [e]; exact h.2
      · exact h1 q (by omega) hq2
    · rw [if_neg h]
      refine ⟨fun q h1 h2 => by omega, ?_⟩
      by_cases e : p = cs.length
      · exact .inl e
      · exact .inr fun hs => h ⟨by omega, hs⟩

/-- the run behind pre: it begins where pre ends, its changes lead to its slot, the one before it does not -/
theorem runs_at (cs : List C) (s : Nat) : ∀ (f p : Nat) (pre : List (Int × Nat × Nat)) (x : Int × Nat × Nat) (rest : List (Int × Nat × Nat)), p ≤ cs.length → (p = 0 ∨ p = cs.length ∨ slotOf (cAt cs (p - 1)).hash s ≠ slotOf (cAt cs p).hash s) →
    runsF cs s f p = pre ++ x :: rest → x.2.1 = p + pos pre ∧ 0 < x.2.2 ∧ p + pos pre + x.2.2 ≤ cs.length ∧ (∀ q, p + pos pre ≤ q → q < p + pos pre + x.2.2 → slotOf (cAt cs q).hash s = x.1) ∧ (p + pos pre = 0 ∨ slotOf (cAt cs (p + pos pre - 1)).hash s ≠ x.1)
  | 0, p, pre, x, rest, _, _, h => by simp [runsF] at h
  | f + 1, p, pre, x, rest, hp, hb, h => by
    unfold runsF at h
    by_cases hlt : p < cs.length
    · rw [if_pos hlt] at h
      obtain ⟨i, hi⟩ : ∃ i, slotOf (cAt cs p).hash s = i := ⟨_, rfl⟩
      obtain ⟨e, he⟩ : ∃ e, runTo cs s i cs.length (p + 1) = e := ⟨_, rfl⟩
      have h1 := runTo_ge cs s i cs.length (p + 1)
      have h2 := runTo_le cs s i cs.length (p + 1) (by omega)
      obtain ⟨h3, h4⟩ := runTo_spec cs s i cs.length (p + 1) (by omega) (by omega)
      simp only [hi, he] at h h1 h2 h3 h4
      have hall : ∀ q, p ≤ q → q < e → slotOf (cAt cs q).hash s = i := by
        intro q hq1 hq2
        by_cases eq : q = p
        · rw [eq, hi]
        · exact h3 q (by omega) hq2
      cases pre with
      | nil =>
        simp only [List.nil_append, List.cons.injEq] at h
        obtain ⟨rfl, _⟩ := h
        refine ⟨rfl, by simp; omega, by simp [pos]; omega, fun q hq1 hq2 => hall q (by simpa [pos] using hq1) (by simp [pos] at hq2; omega), ?_⟩
        simp only [pos, Nat.add_zero]
        rcases hb with hb | hb | hb
        · exact .inl hb
        · omega
        · exact .inr (by rw [hi] at hb; exact hb)
      | cons y ys =>
        simp only [List.cons_append, List.cons.injEq] at h
        obtain ⟨rfl, h⟩ := h
        have ih := runs_at cs s f e ys x rest h2 (by
          by_cases hee : e = cs.length
          · exact .inr (.inl hee)
          · refine .inr (.inr ?_)
            rw [hall (e - 1) (by omega) (by omega)]
            rcases h4 with h4 | h4
            · exact absurd h4 hee
            · exact fun hh => h4 hh.symm) h
        have hpos : pos ((i, p, e - p) :: ys) = e - p + pos ys := rfl
        rw [hpos, show p + (e - p + pos ys) = e + pos ys by omega]
        exact ih
    · rw [if_neg hlt] at h
      simp at h

theorem runs_pos (cs : List C) (s : Nat) : ∀ (f p : Nat), p ≤ cs.length → cs.length - p ≤ f → p + pos (runsF cs s f p) = cs.length
  | 0, p, hp, hf => by simp [runsF, pos]; omega
  | f + 1, p, hp, hf => by
    unfold runsF
    by_cases hlt : p < cs.length
    · rw [if_pos hlt]
      have h1 := runTo_ge cs s (slotOf (cAt cs p).hash s) cs.length (p + 1)
      have h2 := runTo_le cs s (slotOf (cAt cs p).hash s) cs.length (p + 1) (by omega)
      have ih := runs_pos cs s f _ h2 (by omega)
      simp only [pos]
      omega
    · rw [if_neg hlt]
      simp [pos]
      omega

/-- the k changes from p on -/
def seg {α : Type} (l : List α) (p k : Nat) : List α := (l.drop p).take k
theorem seg_length {α : Type} (l : List α) (p k : Nat) (h : p + k ≤ l.length) : (seg l p k).length = k := by simp [seg]; omega
theorem seg_sub {α : Type} (l : List α) (p k : Nat) : (seg l p k).Sublist l := (List.take_sublist _ _).trans (List.drop_sublist _ _)
theorem seg_map {α β : Type} (f : α → β) (l : List α) (p k : Nat) : (seg l p k).map f = seg (l.map f) p k := by simp [seg, List.map_drop, List.map_take]
theorem cAt_seg (cs : List C) (p k q : Nat) (h : q < k) : cAt (seg cs p k) q = cAt cs (p + q) := by
  unfold cAt seg
  rw [List.getD_eq_getElem?_getD, List.getD_eq_getElem?_getD, List.getElem?_take, if_pos h, List.getElem?_drop]
theorem mem_seg {cs : List C} {p k : Nat} (h : p + k ≤ cs.length) {x : C} (hx : x ∈ seg cs p k) : ∃ q, p ≤ q ∧ q < p + k ∧ x = cAt cs q := by
  obtain ⟨q, hq, rfl⟩ := List.mem_iff_getElem.1 hx
  rw [seg_length _ _ _ h] at hq
  refine ⟨p + q, by omega, by omega, ?_⟩
  rw [← cAt_seg cs p k q hq]
  unfold cAt
  rw [List.getD_eq_getElem?_getD, List.getElem?_eq_getElem (by rw [seg_length _ _ _ h]; exact hq)]
  rfl
theorem mem_take {cs : List C} {p : Nat} (h : p ≤ cs.length) {x : C} (hx : x ∈ cs.take p) : ∃ q, q < p ∧ x = cAt cs q := by
  obtain ⟨q, hq, rfl⟩ := List.mem_iff_getElem.1 hx
  have hq' : q < p := by simp at hq; omega
  refine ⟨q, hq', ?_⟩
  unfold cAt
  rw [List.getD_eq_getElem?_getD, List.getElem?_eq_getElem (by omega)]
  simp

/-- those of the first p that lead to slot i -/
def upTo (cs : List C) (s p : Nat) (i : Int) : List C := (cs.take p).filter fun c => slotOf c.hash s == i
theorem upTo_step (cs : List C) (s p k : Nat) (i j : Int) (hk : p + k ≤ cs.length) (hall : ∀ q, p ≤ q → q < p + k → slotOf (cAt cs q).hash s = i) (hno : ∀ q, q < p → slotOf (cAt cs q).hash s ≠ i) :
    upTo cs s (p + k) j = if j = i then seg cs p k else upTo cs s p j := by
  unfold upTo
  rw [List.take_add, List.filter_append]
  have h1 : ∀ x ∈ (cs.drop p).take k, slotOf x.hash s = i := fun x hx => by
    obtain ⟨q, h1, h2, rfl⟩ := mem_seg hk hx
    exact hall q h1 h2
  have h2 : ∀ x ∈ cs.take p, slotOf x.hash s ≠ i := fun x hx => by
    obtain ⟨q, h1, rfl⟩ := mem_take (by omega) hx
    exact hno q h1
  by_cases hj : j = i
  · subst hj
    rw [if_pos rfl, List.filter_eq_nil_iff.2 (fun x hx => by simpa using h2 x hx), List.filter_eq_self.2 (fun x hx => by simpa using h1 x hx)]
    rfl
  · have h3 : ((cs.drop p).take k).filter (fun c => slotOf c.hash s == j) = [] := List.filter_eq_nil_iff.2 fun x hx => by
      rw [h1 x hx]
      simpa using fun e : i = j => hj e.symm
    rw [if_neg hj, h3, List.append_nil]
theorem upTo_none (cs : List C) (s p : Nat) (i : Int) (hp : p ≤ cs.length) (hno : ∀ q, q < p → slotOf (cAt cs q).hash s ≠ i) : upTo cs s p i = [] :=
  List.filter_eq_nil_iff.2 fun x hx => by
    obtain ⟨q, h1, rfl⟩ := mem_take hp hx
    simpa using hno q h1
theorem upTo_all (cs : List C) (s : Nat) (i : Int) : upTo cs s cs.length i = cs.filter fun c => slotOf c.hash s == i := by unfold upTo; rw [List.take_length]

/-- in the order of their hashes, changes reach the slots in order -/
def Mono (cs : List C) (s : Nat) : Prop := ∀ q q', q ≤ q' → q' < cs.length → slotOf (cAt cs q).hash s ≤ slotOf (cAt cs q').hash s
theorem mono_of {cs : List C} {d : Nat} {P : Int} (hs : (cs.map fun c => c.k).Pairwise fun a b => a.r.hash ≤ b.r.hash) (hp : ∀ c ∈ cs, c.k.r.hash / 2 ^ (4 * (d + 1)) = P) : Mono cs (4 * (d + 1)) := by
  intro q q' h1 h2
  by_cases e : q = q'
  · rw [e]; exact Int.le_refl _
  · have hle : (cAt cs q).hash ≤ (cAt cs q').hash := by
      rw [List.pairwise_map] at hs
      have := List.pairwise_iff_getElem.1 hs q q' (by omega) h2 (by omega)
      unfold cAt
      rw [List.getD_eq_getElem?_getD, List.getD_eq_getElem?_getD, List.getElem?_eq_getElem (by omega), List.getElem?_eq_getElem h2]
      exact this
    have c1 := cut16 (cAt cs q).hash d
    have c2 := cut16 (cAt cs q').hash d
    have p1 : (cAt cs q).hash / 2 ^ (4 * (d + 1)) = P := hp _ (cAt_mem (by omega))
    have p2 : (cAt cs q').hash / 2 ^ (4 * (d + 1)) = P := hp _ (cAt_mem h2)
    have hd := Int.ediv_le_ediv (c := 2 ^ (4 * d)) (Int.pow_pos (by decide)) hle
    omega
/-- ahead of a run nothing leads to its slot -/
theorem mono_none {cs : List C} {s p : Nat} {i : Int} (hm : Mono cs s) (hp : p < cs.length) (hi : slotOf (cAt cs p).hash s = i) (hb : p = 0 ∨ slotOf (cAt cs (p - 1)).hash s ≠ i) : ∀ q, q < p → slotOf (cAt cs q).hash s ≠ i := by
  intro q hq e
  rcases hb with hb | hb
  · omega
  · have h1 := hm q (p - 1) (by omega) (by omega)
    have h2 := hm (p - 1) p (by omega) hp
    exact hb (by omega)

theorem ChRow.seg {w : World} {b off p k : Nat} {cs : List C} (h : ChRow w b off cs) (hk : p + k ≤ cs.length) : ChRow w b (off + p * 4) (seg cs p k) := by
  intro i hi
  rw [seg_length _ _ _ hk] at hi
  rw [cAt_seg _ _ _ _ hi, show off + p * 4 + i * 4 = off + (p + i) * 4 by omega]
  exact h (p + i) (by omega)
theorem ChRow.keep {X : Addr → Prop} {w w' : World} {b off : Nat} {cs : List C} (h : ChRow w b off cs) (hk : Keep X w w') (hX : ∀ x, X x → x.block = b → x.off < off ∨ off + cs.length * 4 ≤ x.off) : ChRow w' b off cs := by
  intro i hi
  obtain ⟨h0, h1, h2, h3⟩ := h i hi
  have hn : ∀ o, o < 4 → ¬ X ⟨b, off + i * 4 + o, none⟩ := fun o ho hh => by
    have := hX _ hh rfl
    simp at this
    omega
  exact ⟨hk _ _ (hn 0 (by omega)) h0, hk _ _ (hn 1 (by omega)) h1, hk _ _ (hn 2 (by omega)) h2, hk _ _ (hn 3 (by omega)) h3⟩
end Go.Proofs.Qxb6603644a
