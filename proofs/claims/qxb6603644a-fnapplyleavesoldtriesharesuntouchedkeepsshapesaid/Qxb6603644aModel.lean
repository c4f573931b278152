/-
  THE PLAIN SIDE of zzModel: what it holds.
-/
import Derived.Test.Qxb6603644aZ
import Derived.Test.Qxb6603644aPlain2
namespace Go.Proofs.Qxb6603644a

def sk (a k : Z) : Bool := a.hash == k.hash && a.id.toList == k.id.toList
def pickZ : List Z → List Z → Z
  | b :: _, c :: _ => if keyLess b c = true then b else c
  | b :: _, [] => b
  | [], c :: _ => c
  | [], [] => default
/-- the last of those that have k's key: of the changes, else of the base, else k -/
def lastZ (bs cs : List Z) (k : Z) : Z := ((cs.takeWhile (sk · k)).getLast?.or (bs.takeWhile (sk · k)).getLast?).getD k
def mdl : Nat → List Z → List Z → List Z
  | 0, _, _ => []
  | f + 1, bs, cs => if bs = [] ∧ cs = [] then [] else
      if (lastZ bs cs (pickZ bs cs)).put = true then lastZ bs cs (pickZ bs cs) :: mdl f (bs.dropWhile (sk · (pickZ bs cs))) (cs.dropWhile (sk · (pickZ bs cs)))
      else mdl f (bs.dropWhile (sk · (pickZ bs cs))) (cs.dropWhile (sk · (pickZ bs cs)))

theorem sk_iff (a k : Z) : sk a k = true ↔ same (toR a) (toR k) := by
  unfold sk same R.id
  show _ ↔ a.hash = k.hash ∧ a.id.data.toList = k.id.data.toList
  rw [Bool.and_eq_true, beq_iff_eq, beq_iff_eq, Lib.toList_data, Lib.toList_data]

/-- the last of its key in a strictly sorted list of one key is its last element -/
theorem run_last {l : List Z} {z : Z} (hs : (l.map ofZ).Pairwise ksl) (hsame : ∀ a ∈ l, same (toR a) (toR z)) (hl : l.getLast? = some z) : ∀ a ∈ l, a = z ∨ a.seq < z.seq := by
  intro a ha
  obtain ⟨l', rfl⟩ := List.getLast?_eq_some_iff.1 hl
  rcases List.mem_append.1 ha with h | h
  · right
    rw [List.map_append, List.pairwise_append] at hs
    have := hs.2.2 (ofZ a) (List.mem_map_of_mem h) (ofZ z) (by simp)
    rcases this with h1 | ⟨_, h1⟩
    · exact absurd (hsame a ha) (klt_not_same h1)
    · exact h1
  · left
    simpa using h

theorem drop_gt {l : List Z} {k : Z} (hs : (l.map ofZ).Pairwise ksl) (hk : ∀ a ∈ l, same (toR a) (toR k) ∨ klt (toR k) (toR a)) : ∀ a ∈ l.dropWhile (sk · k), klt (toR k) (toR a) := by
  induction l with
  | nil => intro a ha; simp at ha
  | cons x l ih =>
    intro a ha
    rw [List.map_cons, List.pairwise_cons] at hs
    rw [List.dropWhile_cons] at ha
    by_cases hx : sk x k = true
    · rw [if_pos hx] at ha
      exact ih hs.2 (fun a ha => hk a (List.mem_cons_of_mem _ ha)) a ha
    · rw [if_neg hx] at ha
      have hx2 : klt (toR k) (toR x) := (hk x (by simp)).resolve_left (fun h => hx ((sk_iff x k).2 h))
      rcases List.mem_cons.1 ha with rfl | ha
      · exact hx2
      · rcases hs.1 (ofZ a) (List.mem_map_of_mem ha) with h | ⟨h, _⟩
        · exact klt_trans hx2 h
        · exact klt_same hx2 h
theorem take_same {l : List Z} {k : Z} : ∀ a ∈ l.takeWhile (sk · k), same (toR a) (toR k) := fun a ha => (sk_iff a k).1 (by
  have := List.all_takeWhile (p := (sk · k)) (l := l)
  rw [List.all_eq_true] at this
  exact this a ha)

/-- every element of a sorted list is at least its head -/
theorem head_le {x : Z} {l : List Z} (hs : ((x :: l).map ofZ).Pairwise ksl) : ∀ a ∈ x :: l, same (toR a) (toR x) ∨ klt (toR x) (toR a) := by
  intro a ha
  rcases List.mem_cons.1 ha with rfl | ha
  · exact .inl ⟨rfl, rfl⟩
  · rw [List.map_cons, List.pairwise_cons] at hs
    rcases hs.1 (ofZ a) (List.mem_map_of_mem ha) with h | ⟨h, _⟩
    · exact .inr h
    · exact .inl (same_symm h)
theorem bl_lt : ∀ l m : List UInt8, Op.bytesLess l m = true ↔ l < m
  | [], [] => by simp [Op.bytesLess]
  | [], _ :: _ => by simp [Op.bytesLess]
  | _ :: _, [] => by simp [Op.bytesLess]
  | a :: l, b :: m => by
    rw [List.cons_lt_cons_iff, Op.bytesLess, Bool.or_eq_true, Bool.and_eq_true, decide_eq_true_iff, beq_iff_eq, bl_lt l m]
theorem keyLess_iff (a b : Z) : keyLess a b = true ↔ klt (toR a) (toR b) := by
  unfold keyLess klt R.id
  show _ ↔ a.hash < b.hash ∨ (a.hash = b.hash ∧ a.id.data.toList < b.id.data.toList)
  rw [Bool.or_eq_true, decide_eq_true_iff, Bool.and_eq_true, beq_iff_eq]
  rw [Lib.toList_data, Lib.toList_data, bl_lt]
theorem pick_le {bs cs : List Z} (hb : (bs.map ofZ).Pairwise ksl) (hc : (cs.map ofZ).Pairwise ksl) : (∀ a ∈ bs, same (toR a) (toR (pickZ bs cs)) ∨ klt (toR (pickZ bs cs)) (toR a)) ∧ (∀ a ∈ cs, same (toR a) (toR (pickZ bs cs)) ∨ klt (toR (pickZ bs cs)) (toR a)) := by
  cases bs with
  | nil =>
    cases cs with
    | nil => exact ⟨fun a ha => by simp at ha, fun a ha => by simp at ha⟩
    | cons c cs => exact ⟨fun a ha => by simp at ha, head_le hc⟩
  | cons b bs =>
    cases cs with
    | nil => exact ⟨head_le hb, fun a ha => by simp at ha⟩
    | cons c cs =>
      by_cases h : keyLess b c = true
      · have e : pickZ (b :: bs) (c :: cs) = b := by simp [pickZ, h]
        rw [e]
        refine ⟨head_le hb, fun a ha => .inr ?_⟩
        rcases head_le hc a ha with h1 | h1
        · exact klt_same ((keyLess_iff b c).1 h) (same_symm h1)
        · exact klt_trans ((keyLess_iff b c).1 h) h1
      · have e : pickZ (b :: bs) (c :: cs) = c := by simp [pickZ, h]
        rw [e]
        refine ⟨fun a ha => ?_, head_le hc⟩
        have hcb : same (toR c) (toR b) ∨ klt (toR c) (toR b) := by
          rcases klt_tri (toR c) (toR b) with h1 | h1 | h1
          · exact .inr h1
          · exact .inl h1
          · exact absurd ((keyLess_iff b c).2 h1) h
        rcases head_le hb a ha with h1 | h1 <;> rcases hcb with h2 | h2
        · exact .inl (same_trans h1 (same_symm h2))
        · exact .inr (klt_same h2 (same_symm h1))
        · exact .inr (same_klt h2 h1)
        · exact .inr (klt_trans h2 h1)

def LastZ (l : List Z) (z : Z) : Prop := ∀ y ∈ l, same (toR y) (toR z) → y.seq ≤ z.seq
/-- what the model holds -/
def MRes (bs cs : List Z) (r : R) : Prop := (∃ z ∈ cs, LastZ cs z ∧ z.put = true ∧ toR z = r) ∨ ((∃ z ∈ bs, LastZ bs z ∧ z.put = true ∧ toR z = r) ∧ ∀ y ∈ cs, ¬ same (toR y) r)

theorem last_split {l l1 l2 : List Z} {k z : Z} (hl : l = l1 ++ l2) (h1 : ∀ a ∈ l1, same (toR a) (toR k)) (h2 : ∀ a ∈ l2, klt (toR k) (toR a)) :
    (z ∈ l ∧ LastZ l z ∧ ¬ same (toR z) (toR k)) ↔ (z ∈ l2 ∧ LastZ l2 z) := by
  subst hl
  constructor
  · rintro ⟨hz, hL, hn⟩
    rcases List.mem_append.1 hz with h | h
    · exact absurd (h1 z h) hn
    · exact ⟨h, fun y hy => hL y (List.mem_append_right _ hy)⟩
  · rintro ⟨hz, hL⟩
    refine ⟨List.mem_append_right _ hz, fun y hy hs => ?_, fun hs => klt_not_same (h2 z hz) (same_symm hs)⟩
    rcases List.mem_append.1 hy with h | h
    · exact absurd (same_trans (same_symm (h1 y h)) hs) (klt_not_same (h2 z hz))
    · exact hL y h hs
theorem last_run {l l1 l2 : List Z} {k z : Z} (hl : l = l1 ++ l2) (hs : (l.map ofZ).Pairwise ksl) (h1 : ∀ a ∈ l1, same (toR a) (toR k)) (h2 : ∀ a ∈ l2, klt (toR k) (toR a)) :
    (z ∈ l ∧ LastZ l z ∧ same (toR z) (toR k)) ↔ l1.getLast? = some z := by
  subst hl
  have hs1 : (l1.map ofZ).Pairwise ksl := by
    rw [List.map_append, List.pairwise_append] at hs
    exact hs.1
  constructor
  · rintro ⟨hz, hL, hk⟩
    have hz1 : z ∈ l1 := by
      rcases List.mem_append.1 hz with h | h
      · exact h
      · exact absurd (same_symm hk) (klt_not_same (h2 z h))
    cases hg : l1.getLast? with
    | none => rw [List.getLast?_eq_none_iff] at hg; rw [hg] at hz1; simp at hz1
    | some y =>
      have hy : y ∈ l1 := by
        obtain ⟨l', rfl⟩ := List.getLast?_eq_some_iff.1 hg
        simp
      rcases run_last hs1 (fun a ha => same_trans (h1 a ha) (same_symm (h1 y hy))) hg z hz1 with h | h
      · rw [h]
      · have := hL y (List.mem_append_left _ hy) (same_trans (h1 y hy) (same_symm hk))
        omega
  · intro hg
    have hz : z ∈ l1 := by
      obtain ⟨l', rfl⟩ := List.getLast?_eq_some_iff.1 hg
      simp
    refine ⟨List.mem_append_left _ hz, fun y hy hsm => ?_, h1 z hz⟩
    rcases List.mem_append.1 hy with h | h
    · rcases run_last hs1 (fun a ha => same_trans (h1 a ha) (same_symm (h1 z hz))) hg y h with e | e
      · rw [e]; exact Int.le_refl _
      · omega
    · exact absurd (same_trans (same_symm (h1 z hz)) (same_symm hsm)) (klt_not_same (h2 y h))

theorem mdl_spec : ∀ (f : Nat) (bs cs : List Z), bs.length + cs.length ≤ f → (bs.map ofZ).Pairwise ksl → (cs.map ofZ).Pairwise ksl → (∀ z ∈ mdl f bs cs, z ∈ bs ∨ z ∈ cs) ∧ ((mdl f bs cs).map toR).Pairwise klt ∧ ∀ r, r ∈ (mdl f bs cs).map toR ↔ MRes bs cs r := by
  intro f
  induction f with
  | zero =>
    intro bs cs hl _ _
    have e1 : bs = [] := List.length_eq_zero_iff.1 (by omega)
    have e2 : cs = [] := List.length_eq_zero_iff.1 (by omega)
    subst e1 e2
    exact ⟨fun z h => by simp [mdl] at h, by simp [mdl], fun r => by simp [mdl, MRes]⟩
  | succ f ih =>
    intro bs cs hl hb hc
    by_cases he : bs = [] ∧ cs = []
    · obtain ⟨rfl, rfl⟩ := he
      exact ⟨fun z h => by simp [mdl] at h, by simp [mdl], fun r => by simp [mdl, MRes]⟩
    obtain ⟨k, hk⟩ : ∃ k, pickZ bs cs = k := ⟨_, rfl⟩
    have hpl := pick_le hb hc
    rw [hk] at hpl
    obtain ⟨b1, hb1⟩ : ∃ b1, bs.takeWhile (sk · k) = b1 := ⟨_, rfl⟩
    obtain ⟨b2, hb2⟩ : ∃ b2, bs.dropWhile (sk · k) = b2 := ⟨_, rfl⟩
    obtain ⟨c1, hc1⟩ : ∃ c1, cs.takeWhile (sk · k) = c1 := ⟨_, rfl⟩
    obtain ⟨c2, hc2⟩ : ∃ c2, cs.dropWhile (sk · k) = c2 := ⟨_, rfl⟩
    have hbe : bs = b1 ++ b2 := by rw [← hb1, ← hb2, List.takeWhile_append_dropWhile]
    have hce : cs = c1 ++ c2 := by rw [← hc1, ← hc2, List.takeWhile_append_dropWhile]
    have s1 : ∀ a ∈ b1, same (toR a) (toR k) := by rw [← hb1]; exact take_same
    have s2 : ∀ a ∈ c1, same (toR a) (toR k) := by rw [← hc1]; exact take_same
    have g1 : ∀ a ∈ b2, klt (toR k) (toR a) := by rw [← hb2]; exact drop_gt hb hpl.1
    have g2 : ∀ a ∈ c2, klt (toR k) (toR a) := by rw [← hc2]; exact drop_gt hc hpl.2
    have hkk : sk k k = true := (sk_iff k k).2 ⟨rfl, rfl⟩
    have hkmem : k ∈ b1 ∨ k ∈ c1 := by
      have hh : (∃ t, bs = k :: t) ∨ (∃ t, cs = k :: t) := by
        rw [← hk]
        cases bs with
        | nil =>
          cases cs with
          | nil => exact absurd ⟨rfl, rfl⟩ he
          | cons c cs => exact .inr ⟨cs, rfl⟩
        | cons b bs =>
          cases cs with
          | nil => exact .inl ⟨bs, rfl⟩
          | cons c cs =>
            by_cases h : keyLess b c = true
            · exact .inl ⟨bs, by simp [pickZ, h]⟩
            · exact .inr ⟨cs, by simp [pickZ, h]⟩
      rcases hh with ⟨t, e⟩ | ⟨t, e⟩
      · left
        rw [← hb1, e, List.takeWhile_cons, if_pos hkk]
        simp
      · right
        rw [← hc1, e, List.takeWhile_cons, if_pos hkk]
        simp
    have hlen : b2.length + c2.length ≤ f := by
      have h1 := congrArg List.length hbe
      have h2 := congrArg List.length hce
      rw [List.length_append] at h1 h2
      rcases hkmem with h | h
      · have := List.length_pos_of_mem h
        omega
      · have := List.length_pos_of_mem h
        omega
    have hb' : (b2.map ofZ).Pairwise ksl := by rw [hbe, List.map_append, List.pairwise_append] at hb; exact hb.2.1
    have hc' : (c2.map ofZ).Pairwise ksl := by rw [hce, List.map_append, List.pairwise_append] at hc; exact hc.2.1
    obtain ⟨i1, i2, i3⟩ := ih b2 c2 hlen hb' hc'
    obtain ⟨L, hL⟩ : ∃ L, lastZ bs cs k = L := ⟨_, rfl⟩
    have hLd : (c1.getLast?.or b1.getLast?).getD k = L := by rw [← hL, lastZ, hb1, hc1]
    -- L is the last of k's key
    have hLc : (c1.getLast? = some L) ∨ (c1 = [] ∧ b1.getLast? = some L) := by
      cases hg : c1.getLast? with
      | some y =>
        left
        rw [hg] at hLd
        have : y = L := by simpa using hLd
        rw [this]
      | none =>
        right
        have hce0 : c1 = [] := List.getLast?_eq_none_iff.1 hg
        refine ⟨hce0, ?_⟩
        rw [hg] at hLd
        cases hg2 : b1.getLast? with
        | some y =>
          rw [hg2] at hLd
          have : y = L := by simpa using hLd
          rw [this]
        | none =>
          rw [List.getLast?_eq_none_iff.1 hg2, hce0] at hkmem
          simp at hkmem
    have hLk : same (toR L) (toR k) ∧ (L ∈ bs ∨ L ∈ cs) := by
      rcases hLc with h | ⟨_, h⟩
      · obtain ⟨l', e⟩ := List.getLast?_eq_some_iff.1 h
        have : L ∈ c1 := by rw [e]; simp
        exact ⟨s2 L this, .inr (by rw [hce]; exact List.mem_append_left _ this)⟩
      · obtain ⟨l', e⟩ := List.getLast?_eq_some_iff.1 h
        have : L ∈ b1 := by rw [e]; simp
        exact ⟨s1 L this, .inl (by rw [hbe]; exact List.mem_append_left _ this)⟩
    have hres : ∀ r, MRes bs cs r ↔ (L.put = true ∧ toR L = r) ∨ MRes b2 c2 r := by
      intro r
      constructor
      · rintro (⟨z, hz, hl2, hp, rfl⟩ | ⟨⟨z, hz, hl2, hp, rfl⟩, hno⟩)
        · by_cases hsm : same (toR z) (toR k)
          · have h1 := (last_run hce hc s2 g2).1 ⟨hz, hl2, hsm⟩
            rcases hLc with h | ⟨h, _⟩
            · rw [h1] at h
              obtain rfl := Option.some.inj h
              exact .inl ⟨hp, rfl⟩
            · rw [h] at h1
              simp at h1
          · have h1 := (last_split hce s2 g2).1 ⟨hz, hl2, hsm⟩
            exact .inr (.inl ⟨z, h1.1, h1.2, hp, rfl⟩)
        · by_cases hsm : same (toR z) (toR k)
          · have h1 := (last_run hbe hb s1 g1).1 ⟨hz, hl2, hsm⟩
            rcases hLc with h | ⟨_, h⟩
            · obtain ⟨l', e⟩ := List.getLast?_eq_some_iff.1 h
              have hLm : L ∈ c1 := by rw [e]; simp
              exact absurd (same_trans (s2 L hLm) (same_symm hsm)) (hno L (by rw [hce]; exact List.mem_append_left _ hLm))
            · rw [h1] at h
              obtain rfl := Option.some.inj h
              exact .inl ⟨hp, rfl⟩
          · have h1 := (last_split hbe s1 g1).1 ⟨hz, hl2, hsm⟩
            exact .inr (.inr ⟨⟨z, h1.1, h1.2, hp, rfl⟩, fun y hy => hno y (by rw [hce]; exact List.mem_append_right _ hy)⟩)
      · rintro (⟨hp, rfl⟩ | h)
        · rcases hLc with h | ⟨h0, h⟩
          · have h1 := (last_run hce hc s2 g2).2 h
            exact .inl ⟨L, h1.1, h1.2.1, hp, rfl⟩
          · have h1 := (last_run hbe hb s1 g1).2 h
            refine .inr ⟨⟨L, h1.1, h1.2.1, hp, rfl⟩, fun y hy hsm => ?_⟩
            rw [hce, h0, List.nil_append] at hy
            exact klt_not_same (g2 y hy) (same_trans (same_symm hLk.1) (same_symm hsm))
        · rcases h with ⟨z, hz, hl2, hp, rfl⟩ | ⟨⟨z, hz, hl2, hp, rfl⟩, hno⟩
          · have h1 := (last_split hce s2 g2).2 ⟨hz, hl2⟩
            exact .inl ⟨z, h1.1, h1.2.1, hp, rfl⟩
          · have h1 := (last_split hbe s1 g1).2 ⟨hz, hl2⟩
            refine .inr ⟨⟨z, h1.1, h1.2.1, hp, rfl⟩, fun y hy hsm => ?_⟩
            rw [hce] at hy
            rcases List.mem_append.1 hy with hy | hy
            · exact klt_not_same (g1 z hz) (same_trans (same_symm (s2 y hy)) hsm)
            · exact hno y hy hsm
    have hm : mdl (f + 1) bs cs = if L.put = true then L :: mdl f b2 c2 else mdl f b2 c2 := by
      conv => lhs; unfold mdl
      rw [if_neg he, hk, hL, hb2, hc2]
    have hgt : ∀ z ∈ mdl f b2 c2, klt (toR k) (toR z) := fun z hz => (i1 z hz).elim (g1 z) (g2 z)
    have hmem2 : ∀ z ∈ mdl f b2 c2, z ∈ bs ∨ z ∈ cs := fun z hz => (i1 z hz).imp (fun h => by rw [hbe]; exact List.mem_append_right _ h) (fun h => by rw [hce]; exact List.mem_append_right _ h)
    rw [hm]
    by_cases hp : L.put = true
    · rw [if_pos hp]
      refine ⟨fun z hz => ?_, ?_, fun r => ?_⟩
      · rcases List.mem_cons.1 hz with rfl | hz
        · exact hLk.2
        · exact hmem2 z hz
      · rw [List.map_cons, List.pairwise_cons]
        refine ⟨fun r hr => ?_, i2⟩
        obtain ⟨z, hz, rfl⟩ := List.mem_map.1 hr
        exact same_klt hLk.1 (hgt z hz)
      · rw [List.map_cons, List.mem_cons, i3, hres]
        constructor
        · rintro (h | h)
          · exact .inl ⟨hp, h.symm⟩
          · exact .inr h
        · rintro (⟨_, h⟩ | h)
          · exact .inl h.symm
          · exact .inr h
    · rw [if_neg hp]
      refine ⟨hmem2, i2, fun r => ?_⟩
      rw [i3, hres]
      constructor
      · exact .inr
      · rintro (⟨h, _⟩ | h)
        · exact absurd h hp
        · exact h
end Go.Proofs.Qxb6603644a
