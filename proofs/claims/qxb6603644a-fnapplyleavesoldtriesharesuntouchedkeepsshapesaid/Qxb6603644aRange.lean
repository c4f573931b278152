/-
  A RANGE OVER A FUNCTION WHOSE STATE LIES IN A CELL OF ITS OWN (a captured variable), the body running to its end each time: what the caller owes, what the iterator owes. (The library's laws leave such an iterator out.)
-/
import Derived.RangeFuncNested
import Derived.RangeFuncCalls
import Derived.RangeFuncLeaves
import Derived.WalkKit
import Derived.WalkLawsBesides
namespace Go.Proofs.Qxb6603644a
open Go.RowKit

/-- what both sides know abides a turn of a block that is no cells and was laid since B, a new block, a draw -/
structure Abide {β : Type} (B : Nat) (I : β → World → Prop) : Prop where
  put : ∀ s W l o o', I s W → B ≤ l → W.heap[l]? = some o → o.isCells = false → I s (W.putObj l o')
  alloc : ∀ s W o, I s W → I s (W.alloc o)

/-- the iterator's word: c is its own cell's block; xs what it hands out; Inv: ahead of a round; Inv2: behind it, its own cell not yet turned -/
def Iter {α : Type} (F : Fence) (n : Nat) (P : Program) (gf : Nat) (lb : Array Value) (encs : α → Array Value) (c : Nat) (xs : List α) (Inv Inv2 : List α → World → Prop) : Prop :=
  ∀ (l : Nat) (J J2 : List α → World → Prop), (∀ pre W, J pre W → Inv pre W) → (∀ pre W, J2 pre W → Inv2 pre W) →
    (∀ pre W v, J2 pre W → Inv pre (W.setCell ⟨c, 0, none⟩ v) → J pre (W.setCell ⟨c, 0, none⟩ v)) →
    (∀ pre W q, J pre W → Inv pre (W.drewN q) → J pre (W.drewN q)) →
    (∀ pre x rest W1, xs = pre ++ x :: rest → J pre W1 → YieldAt F (n - 1) P l (encs x) W1 fun e W' => e = .returned (.bool true) ∧ J2 (pre ++ [x]) W') →
    ∀ W, J [] W → CallsIn F n P gf (#[.func (.yield l) #[] #[]] ++ lb) W fun e W' => (∃ v, e = .returned v) ∧ J xs W'

theorem range_own {α : Type} {F : Fence} {n : Nat} {P : Program} {g : Operand} {ps : Array Tmp} {assign body : Code} {Q : Exit → Act → World → Prop} {a : Act} {w : World}
    (hro : F.round = none) (h1 : 1 ≤ n) {gf : Nat} {lb : Array Value} (hg : a.eval g = .func (.func gf) #[] lb) (hFg : F.fn gf) (eg : ∀ args w, (callFunc gf args).run P w = .ok (.enter gf args) w)
    {encs : α → Array Value} (hps : ∀ x, (encs x).size = ps.size) {c : Nat} (hc : c < w.heap.size) {xs : List α} {Inv Inv2 : List α → World → Prop} (hI : Abide w.heap.size Inv) (hI2 : Abide w.heap.size Inv2)
    (hiter : Iter F (n - 1) P gf lb encs c xs Inv Inv2) (h0 : Inv [] w) (a₁ : α → Act)
    (hassign : ∀ (l : Nat) (x : α) (W : World) (K : Act → World → Prop), K (a₁ x) W →
      assign.wpIn (F.inRound l) (n - 1 - 1) P (Exit.then K (fun _ _ _ => False)) { tmps := (ps.zip (encs x)).foldl (fun t (p, v) => t.setIfInBounds p v) a.tmps, defers := [] } W)
    (hbody : ∀ (l : Nat) (pre : List α) (x : α) (rest : List α) (W : World), xs = pre ++ x :: rest → Inv pre W → body.wpIn (F.inRound l) (n - 1 - 1) P (fun e _ W' => e = .normal ∧ KeepsOthers W W' ∧ Inv2 (pre ++ [x]) W') (a₁ x) W)
    (hdone : ∀ (D : Nat) (W : World), w.heap.size ≤ D → Inv xs W → W.heap[D]? = some (.deferred (some [])) → Q .normal { a with defers := { target := .collected D, args := #[] } :: a.defers } W) :
    (Code.rangeFunc g ps assign body).wpIn F n P Q a w := by
  refine wpIn_rangeFunc ?_
  intro fn hfn
  rw [hro]
  obtain ⟨r, hr⟩ : ∃ r : Loop, r = { state := .ready, pending := none, fn, tmps := a.tmps, params := ps, assign, body, defers := w.heap.size } := ⟨_, rfl⟩
  obtain ⟨W1, hW1⟩ : ∃ W1, W1 = (w.alloc (.deferred (some []))).alloc (.loop r) := ⟨_, rfl⟩
  have hL1 : W1.heap[w.heap.size + 1]? = some (.loop r) := by
    rw [hW1]
    have := World.alloc_heap_new (w.alloc (.deferred (some []))) (.loop r)
    rwa [World.size_alloc] at this
  have hD1 : W1.heap[w.heap.size]? = some (.deferred (some [])) := by
    rw [hW1]
    exact (Below.heap_alloc _ _ _ (by simp)).trans (World.alloc_heap_new w _)
  refine ⟨w.heap.size + 1, [{ target := .collected w.heap.size, args := #[] }], W1, { target := .fn (.func gf) lb, args := #[.func (.yield (w.heap.size + 1)) #[] #[]] }, W1, gf,
    #[.func (.yield (w.heap.size + 1)) #[] #[]] ++ lb, W1, ?_, ?_, ?_, ?_, fun _ => h1, ?_⟩
  · rw [hW1, hr]; exact run_enterLoop_outer _ _ _ _ _
  · simp only [resolve, hg]
    simp [go_sem]
  · intro f' hf'; simp [Target.leads] at hf'; subst hf'; exact hFg
  · simp [invoke, go_sem, eg]
  · refine (hiter (w.heap.size + 1) (fun pre W => Inv pre W ∧ W.heap[w.heap.size + 1]? = some (.loop r) ∧ W.heap[w.heap.size]? = some (.deferred (some [])))
      (fun pre W => Inv2 pre W ∧ W.heap[w.heap.size + 1]? = some (.loop r) ∧ W.heap[w.heap.size]? = some (.deferred (some [])))
      (fun _ _ h => h.1) (fun _ _ h => h.1) ?_ (fun _ _ _ h hi => ⟨hi, h.2⟩) ?_ W1 ⟨by rw [hW1]; exact hI.alloc _ _ _ (hI.alloc _ _ _ h0), hL1, hD1⟩).mono ?_
    · rintro pre W v ⟨_, hl, hd⟩ hi
      exact ⟨hi, (Below.heap_setCell _ _ _ _ (by simp; omega)).trans hl, (Below.heap_setCell _ _ _ _ (by simp; omega)).trans hd⟩
    · rintro pre x rest W hxs ⟨hi, hl, hd⟩
      have hy := run_yield (P := P) (args := encs x) hl (by rw [hr]; exact hps x)
      rw [hr] at hy
      refine ⟨fn, _, assign, body, hy, roundIn_of_wpIn hfn (hassign _ x W _ ⟨_, run_beginRound hl (by rw [hr]), ?_⟩)⟩
      have hlt : w.heap.size + 1 < W.heap.size := (Array.getElem?_eq_some_iff.1 hl).1
      have hl2 : (W.putObj (w.heap.size + 1) (.loop { r with state := .busy })).heap[w.heap.size + 1]? = some (.loop { r with state := .busy }) := World.putObj_heap_same hlt
      have hd2 : (W.putObj (w.heap.size + 1) (.loop { r with state := .busy })).heap[w.heap.size]? = some (.deferred (some [])) := (World.putObj_heap_other (by omega)).trans hd
      refine wpIn_mono (hbody _ pre x rest _ hxs (hI.put _ _ _ _ _ hi (by omega) hl rfl)) ?_
      rintro e a3 W3 ⟨rfl, hk3, hi3⟩
      have hl3 := hk3.same _ _ hl2 rfl
      have hend := run_endRound (P := P) none hl3
      refine ⟨_, _, hend, rfl, hI2.put _ _ _ _ _ hi3 (by omega) hl3 rfl, ?_, ?_⟩
      · rw [World.putObj_heap_same (Array.getElem?_eq_some_iff.1 hl3).1, hr]
        rfl
      · exact (World.putObj_heap_other (by omega)).trans (hk3.same _ _ hd2 rfl)
    · rintro e W2 ⟨⟨v, rfl⟩, hi, hl, hd⟩
      have hend := run_endLoop (P := P) hl (by rw [hr]; simp)
      refine ⟨none, _, by rw [hend, hr], ?_⟩
      exact hdone _ _ (Nat.le_refl _) (hI.put _ _ _ _ _ hi (by omega) hl rfl) ((World.putObj_heap_other (by omega)).trans hd)
end Go.Proofs.Qxb6603644a
