/-
  THE WALK of newLayout (32).
-/
import Derived.Test.Qxb6603067aGrow
namespace Go.Proofs.Qxb6603067a
open Go.RowKit
open Plain

theorem Grow_int (v : Value) (zs : List Int) (z : Int) (n : Nat) (hz : z = n) (w : World) (hv : Full w v zs) (h0 : 0 < n) (hsz : zs.length + n ≤ 140737488355328) :
    Calls Try.prog 45 #[v, .int .i64 z] w fun x w' => ∃ cap, x = .returned (.slice (some ⟨w.heap.size, 0, none⟩) zs.length cap) ∧ Own w' w.heap.size (.slice (some ⟨w.heap.size, 0, none⟩) zs.length cap) zs ∧ Below w.heap.size w w' ∧ w'.heap.size = w.heap.size + 1 := by
  subst hz
  exact Grow_any v zs n w hv h0 hsz

/-- LI with whatever bytes in lines -/
def LIg (w : World) (l : Lay) (d : Nat) (out : List Int) (L : List Int) : Prop :=
  ∃ ao co al cl, w.cell? ⟨l.B, 0, none⟩ = some (.slice ao out.length co) ∧ w.cell? ⟨l.B, 1, none⟩ = some (.string l.pre) ∧ w.cell? ⟨l.B, 2, none⟩ = some (.string l.ind) ∧
    w.cell? ⟨l.B, 3, none⟩ = some (.int .i64 d) ∧ w.cell? ⟨l.B, 4, none⟩ = some (.slice al L.length cl) ∧
    w.frozen? ⟨l.B, 0, none⟩ = false ∧ w.frozen? ⟨l.B, 3, none⟩ = false ∧ w.frozen? ⟨l.B, 4, none⟩ = false ∧
    Own w 0 (.slice ao out.length co) out ∧ Own w (l.B + 1) (.slice al L.length cl) L ∧
    l.N ≤ l.B ∧ l.B < w.heap.size ∧ some l.B ≠ l.row ∧
    ∀ g, (Value.slice ao out.length co).ownBlock = some g → g ≠ l.B ∧ (some g = l.row ∨ l.N ≤ g) ∧ (Value.slice al L.length cl).ownBlock ≠ some g

theorem LIg.li {w : World} {l : Lay} {d : Nat} {out : List Int} {L : List Int} (h : LIg w l d out L) (k : Nat) (hk : L = nl (sbytes l.pre) (sbytes l.ind) k) : LI w l d out k := by
  subst hk
  exact h

theorem LIg.later {w w' : World} {l : Lay} {d : Nat} {out : List Int} {L : List Int} (h : LIg w l d out L) (hb : Below w.heap.size w w') (hs : w.heap.size ≤ w'.heap.size) : LIg w' l d out L := by
  obtain ⟨ao, co, al, cl, c0, c1, c2, c3, c4, f0, f3, f4, ho, hl, hN, hB, hr, hg⟩ := h
  have cc : ∀ q, w'.cell? ⟨l.B, q, none⟩ = w.cell? ⟨l.B, q, none⟩ := fun q => World.cell?_of_block (w := w) (hb.block l.B hB)
  have ff : ∀ q, w'.frozen? ⟨l.B, q, none⟩ = w.frozen? ⟨l.B, q, none⟩ := fun q => World.frozen?_of_block (w := w) (hb.block l.B hB)
  exact ⟨ao, co, al, cl, (cc 0).trans c0, (cc 1).trans c1, (cc 2).trans c2, (cc 3).trans c3, (cc 4).trans c4, (ff 0).trans f0, (ff 3).trans f3, (ff 4).trans f4,
    ho.later hb (Nat.le_refl _), hl.later hb (Nat.le_refl _), hN, by omega, hr, hg⟩

theorem LIg.setLines {w : World} {l : Lay} {d : Nat} {out : List Int} {L L' : List Int} {a' : Option Addr} {n' c' : Nat} (h : LIg w l d out L) (ho' : Own w (l.B + 1) (.slice a' n' c') L') (hn : n' = L'.length)
    (hap : ∀ ao co, w.cell? ⟨l.B, 0, none⟩ = some (.slice ao out.length co) → ∀ g, (Value.slice ao out.length co).ownBlock = some g → (Value.slice a' n' c').ownBlock ≠ some g) :
    LIg (w.setCell ⟨l.B, 4, none⟩ (.slice a' n' c')) l d out L' ∧ Keep l.N l.row w (w.setCell ⟨l.B, 4, none⟩ (.slice a' n' c')) := by
  subst hn
  obtain ⟨ao, co, al, cl, c0, c1, c2, c3, c4, f0, f3, f4, ho, hl, hN, hB, hr, hgg⟩ := h
  refine ⟨⟨ao, co, a', c', ?_, ?_, ?_, ?_, ?_, ?_, ?_, ?_, own_setCell ho (fun e => (hgg _ e).1 rfl) _, own_setCell ho' (fun e => by have h9 : l.B + 1 ≤ l.B := (ho'.lt _ e).1; omega) _, hN, by simp; omega, hr, fun g e => ⟨(hgg g e).1, (hgg g e).2.1, hap ao co c0 g e⟩⟩, (Keep.refl _ _ w).setCell (by exact hN) _⟩
  all_goals simp [go_sem, *]

/-- behind an append to lines, and the store of the new slice -/
theorem LIg.lined {w w1 : World} {l : Lay} {d : Nat} {out : List Int} {L L' : List Int} {al : Option Addr} {cl : Nat} {a' : Option Addr} {n' c' : Nat} (h : LIg w l d out L)
    (hc : w.cell? ⟨l.B, 4, none⟩ = some (.slice al L.length cl))
    (hg : w.grownBy w1 (Value.slice al L.length cl).ownBlock) (ho' : Own w1 (l.B + 1) (.slice a' n' c') L')
    (hl' : Lies w (.slice al L.length cl) (.slice a' n' c')) (hn : n' = L'.length) :
    LIg (w1.setCell ⟨l.B, 4, none⟩ (.slice a' n' c')) l d out L' ∧ Keep l.N l.row w (w1.setCell ⟨l.B, 4, none⟩ (.slice a' n' c')) ∧
      ∀ q, w1.cell? ⟨l.B, q, none⟩ = w.cell? ⟨l.B, q, none⟩ ∧ w1.frozen? ⟨l.B, q, none⟩ = w.frozen? ⟨l.B, q, none⟩ := by
  subst hn
  obtain ⟨ao, co, al', cl', c0, c1, c2, c3, c4, f0, f3, f4, ho, hl, hN, hB, hr, hgg⟩ := h
  rw [hc] at c4
  simp only [Option.some.injEq, Value.slice.injEq] at c4
  obtain ⟨rfl, _, rfl⟩ := c4
  have hnB : some l.B ≠ (Value.slice al L.length cl).ownBlock := fun e => by have := (hl.lt l.B e.symm).1; omega
  have cc : ∀ q, w1.cell? ⟨l.B, q, none⟩ = w.cell? ⟨l.B, q, none⟩ := fun q => World.cell?_of_block (w := w) (hg.block l.B hB hnB)
  have ff : ∀ q, w1.frozen? ⟨l.B, q, none⟩ = w.frozen? ⟨l.B, q, none⟩ := fun q => World.frozen?_of_block (w := w) (hg.block l.B hB hnB)
  have hsz := hg.size
  have hok : Own w1 0 (.slice ao out.length co) out := by
    refine ho.kept hg ?_
    cases e : (Value.slice ao out.length co).ownBlock with
    | none => exact .inl rfl
    | some g2 => exact .inr (fun e2 => (hgg g2 e).2.2 e2.symm)
  have hnew : ∀ g, (Value.slice ao out.length co).ownBlock = some g → g ≠ l.B ∧ (some g = l.row ∨ l.N ≤ g) ∧ (Value.slice a' L'.length c').ownBlock ≠ some g := by
    intro g e
    refine ⟨(hgg g e).1, (hgg g e).2.1, fun e2 => ?_⟩
    rcases hl' with h1 | h1
    · exact (hgg g e).2.2 (h1.symm.trans e2)
    · rw [h1] at e2
      cases e2
      have := ownBlock_lt ho e
      omega
  refine ⟨⟨ao, co, a', c', ?_, ?_, ?_, ?_, ?_, ?_, ?_, ?_, own_setCell hok (fun e => (hgg _ e).1 rfl) _, own_setCell ho' (fun e => by have h9 : l.B + 1 ≤ l.B := (ho'.lt _ e).1; omega) _, hN, by simp; omega, hr, hnew⟩, ?_, fun q => ⟨cc q, ff q⟩⟩
  · simp [go_sem, cc, c0]
  · simp [go_sem, cc, c1]
  · simp [go_sem, cc, c2]
  · simp [go_sem, cc, c3]
  · simp [go_sem, cc, hc]
  · simp [go_sem, ff, f0]
  · simp [go_sem, ff, f3]
  · simp [go_sem, ff, f4]
  · refine ((Keep.refl _ _ w).grown hg (by omega) (fun q e => .inr (by have := (hl.lt q e).1; omega))).setCell (by exact hN) _

theorem LIg.new (w w1 : World) (pre ind : ByteArray) (zs : List Int) (l cap : Nat) (hl : l = zs.length) (ho : Own w1 w.heap.size (.slice (some ⟨w.heap.size, 0, none⟩) l cap) zs) (hs : w1.heap.size = w.heap.size + 1) :
    LIg (w1.alloc (.cells #[.slice (some ⟨w.heap.size, 0, none⟩) l cap, .string pre, .string ind, .int .i64 0, .slice none 0 0] 56)) ⟨w1.heap.size, w.heap.size, none, pre, ind⟩ 0 zs [] := by
  subst hl
  refine ⟨some ⟨w.heap.size, 0, none⟩, cap, none, 0, by simp [go_sem], by simp [go_sem], by simp [go_sem], by simp [go_sem], by simp [go_sem], by simp [go_sem], by simp [go_sem], by simp [go_sem], ?_, Own.nil _ _, by simp; omega, by simp, by simp, ?_⟩
  · refine World.ownsRow.alloc ⟨ho.1, ?_⟩ _
    rcases ho.2 with h | ⟨g, c, cur, e, _, rest⟩
    · exact .inl h
    · exact .inr ⟨g, c, cur, e, Nat.zero_le _, rest⟩
  · intro g e
    simp only [Value.ownBlock, Option.some.injEq] at e
    subst e
    refine ⟨by simp; omega, .inr (by simp), by simp [Value.ownBlock]⟩

theorem LIg.facts {w : World} {l : Lay} {d : Nat} {out : List Int} {L : List Int} (h : LIg w l d out L) : (∃ v, w.cell? ⟨l.B, 0, none⟩ = some v) ∧ (∃ v, w.cell? ⟨l.B, 4, none⟩ = some v) ∧ w.frozen? ⟨l.B, 0, none⟩ = false ∧ w.frozen? ⟨l.B, 4, none⟩ = false := by
  obtain ⟨ao, co, al, cl, c0, c1, c2, c3, c4, f0, f3, f4, _⟩ := h
  exact ⟨⟨_, c0⟩, ⟨_, c4⟩, f0, f4⟩

theorem apart0 {w3 : World} {a : Addr} {b l cap n base : Nat} {v : Value} {L : List Int} (c0 : w3.cell? a = some (.slice (some ⟨b, 0, none⟩) l cap)) (ho : Own w3 base v L) (hb : b < base) :
    ∀ ao co, w3.cell? a = some (.slice ao n co) → ∀ g, (Value.slice ao n co).ownBlock = some g → v.ownBlock ≠ some g := by
  intro ao co hc g e e2
  rw [c0] at hc
  simp only [Option.some.injEq, Value.slice.injEq] at hc
  rw [← hc.1] at e
  simp only [Value.ownBlock, Option.some.injEq] at e
  have := (ho.lt g e2).1
  omega

theorem LI.own0 {w : World} {l : Lay} {d : Nat} {out : List Int} {k : Nat} (h : LI w l d out k) {ao : Option Addr} {n co : Nat} (hc : w.cell? ⟨l.B, 0, none⟩ = some (.slice ao n co)) : n = out.length ∧ Own w 0 (.slice ao n co) out := by
  obtain ⟨ao', co', al, cl, c0, c1, c2, c3, c4, f0, f3, f4, ho, _⟩ := h
  rw [hc] at c0
  simp only [Option.some.injEq, Value.slice.injEq] at c0
  obtain ⟨rfl, rfl, rfl⟩ := c0
  exact ⟨rfl, ho⟩

theorem keep_of_below {N : Nat} {row : Option Nat} {w w' : World} {B : Nat} (h : Below B w w') (hN : N ≤ B) : Keep N row w w' :=
  ⟨h.os, h.tape, h.output, h.size, fun k hk _ => h.block k (by omega)⟩

set_option maxRecDepth 10000 in
set_option maxHeartbeats 400000 in
theorem newLayout_any (v : Value) (zs : List Int) (n : Nat) (pre ind : ByteArray) (w : World) (hv : Full w v zs) (h0 : 0 < n) (hn : n ≤ 1048576) (hz : zs.length ≤ 1048576) (hp : pre.size ≤ 1048576) (hi : ind.size ≤ 1048576) :
    Calls Try.prog 32 #[v, .int .i64 n, .string pre, .string ind] w fun x w' => ∃ k, x = .returned (.pointer (some ⟨w.heap.size + 1, 0, none⟩)) ∧ LI w' ⟨w.heap.size + 1, w.heap.size, none, pre, ind⟩ 0 (zs ++ sbytes pre) k ∧ Keep w.heap.size none w w' := by
  obtain ⟨l, hl⟩ : ∃ l, l = zs.length := ⟨_, rfl⟩
  have HL : Hid _ := hl
  rw [← hl] at hz
  clear hl
  go_enter Try.func32, Try.ntmps32
  go_wp2_with (first
    | (go_at_call 45; refine (Grow_int v zs _ (pre.size + 3 * n) (by omega) _ hv (by omega) (by have := HL.out; omega)).mono ?_; rintro x w1 ⟨cap, rfl, ho1, hb1, hs1⟩; rw [← HL.out] at ho1 ⊢; have HS1 : Hid _ := hs1; clear hs1)
    | (at_make; have hA := LIg.new w w1 pre ind zs l cap HL.out ho1 HS1.out; refine wpList_make_room rfl _ _ rfl _ _ _ (1 + pre.size + 8 * ind.size) rfl rfl (by omega) (by omega) (w1.heap.size + 1) (by simp) ?_; intro w2 ho2 hb2; have h2 := hA.later hb2 hb2.size; simp at ho2)
    | (at_builtin; refine wpList_app_bytes rfl _ _ rfl (w1.heap.size + 1) _ [] rfl (World.ownsRow.alloc ho2 _) _ 1 1 [10] rfl _ (one_row _ 10) (by simp) (by simp) (by have := hb2.size; simp at this ⊢; omega) ?_; intro a3 c3 w3 ho3 hg3 hl3; simp only [List.length_nil, Nat.zero_add, List.nil_append] at ho3 hl3; have hb3 := (hb2.alloc (by have := hb2.size; simpa using this) _).grown hg3 (by have := hb2.size; simp at this ⊢; omega) (fun q e => by have := (ho2.lt q e).1; simp; omega); have h3 := hA.later hb3 hb3.size; have e0 : w3.cell? ⟨w1.heap.size, 0, none⟩ = some (.slice (some ⟨w.heap.size, 0, none⟩) l cap) := (World.cell?_of_block (hb3.block w1.heap.size (by simp))).trans (by simp [go_sem]); have e4 : w3.cell? ⟨w1.heap.size, 4, none⟩ = some (.slice none 0 0) := (World.cell?_of_block (hb3.block w1.heap.size (by simp))).trans (by simp [go_sem]); obtain ⟨_, _, g0, g4⟩ := h3.facts; obtain ⟨h4, hK4⟩ := h3.setLines ho3 rfl (apart0 e0 ho3 (by have := HS1.out; show _ < w1.heap.size + 1; omega)))
    | (at_builtin; have h5' := h5.li 0 (by simp [nl, reps]); have hc5 : (w5.setCell ⟨w1.heap.size, 4, none⟩ (.slice a5 (1 + pre.size) c5)).cell? ⟨w1.heap.size, 0, none⟩ = some (.slice (some ⟨w.heap.size, 0, none⟩) zs.length cap) := (by rw [← HL.out]; simp [go_sem, e50]); have hoo := (h5'.own0 hc5).2; rw [← HL.out] at hoo; refine wpList_app_str rfl _ _ rfl 0 _ zs rfl hoo pre rfl (by have := HL.out; omega) (Nat.zero_le _) ?_; intro a6 c6 w6 ho6 hg6 hl6; obtain ⟨h6, hK6, hc6, hf6⟩ := h5'.wrote hc5 hg6 ho6 hl6 (by simp [sbytes_length]))
    | (at_builtin; refine wpList_app_str rfl _ _ rfl (w1.heap.size + 1) _ [10] rfl (own_setCell ho3 (fun e => by have := (ho3.lt _ e).1; simp at this; omega) _) pre rfl (by simp; omega) (by have := hb3.size; simp at this ⊢; omega) ?_; intro a5 c5 w5 ho5 hg5 hl5; obtain ⟨h5, hK5, hq5⟩ := h4.lined (by simp [go_sem, e4]) hg5 ho5 hl5 (by simp [sbytes_length]; omega); have e50 : w5.cell? ⟨w1.heap.size, 0, none⟩ = some (.slice (some ⟨w.heap.size, 0, none⟩) l cap) := (hq5 0).1.trans (by simp [go_sem, e0]); have e54 : w5.cell? ⟨w1.heap.size, 4, none⟩ = some (.slice a3 1 c3) := (hq5 4).1.trans (by simp [go_sem, e4]); have g50 : w5.frozen? ⟨w1.heap.size, 0, none⟩ = false := (hq5 0).2.trans (by simp [go_sem, g0]); have g54 : w5.frozen? ⟨w1.heap.size, 4, none⟩ = false := (hq5 4).2.trans (by simp [go_sem, g4])))
  go_ret
  rw [← HS1.out]
  exact ⟨rfl, ⟨0, h6⟩, (((((keep_of_below hb1 (Nat.le_refl _)).alloc (by have := HS1.out; omega) _).trans (keep_of_below hb3 (by have := HS1.out; simp; omega))).trans hK4).trans hK5).trans hK6⟩
end Go.Proofs.Qxb6603067a
