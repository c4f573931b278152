/-
  SHARED BY THE TWO LAWS OF Indent: what lies where along the law's own road; Indent's output is the model's.
-/
import Derived.Test.Qxb6603067aZWalk
import Derived.Test.Qxb6603067aIWalk
import Derived.Test.Qxb6603067aFits
import Derived.Test.Qxb6603067aDecWalk
namespace Go.Proofs.Qxb6603067a
open Go.RowKit
open Plain

theorem Bytes.wider {w : World} {B C : Nat} {a : Option Addr} {n : Nat} {zs : List Int} (h : Bytes w B a n zs) (hBC : B ≤ C) : Bytes w C a n zs := by
  obtain ⟨hz, h0 | ⟨b, off, ha, hb, hc⟩⟩ := h
  · exact ⟨hz, .inl h0⟩
  · exact ⟨hz, .inr ⟨b, off, ha, by omega, hc⟩⟩

theorem In.later {w w' : World} {a : Option Addr} {n cap : Nat} {zs : List Int} (h : In w a n cap zs) (hb : Below w.heap.size w w') : In w' a n cap zs := by
  rcases h with h | ⟨ad, rfl, h⟩
  · exact .inl h
  · exact .inr ⟨ad, rfl, (h.later hb (Nat.le_refl _)).wider hb.size⟩

theorem own_of_row {w : World} {g base : Nat} {zs : List Int} (h : Row w g zs) (hl : zs.length ≤ 1048576) (hb : base ≤ g) : Own w base (.slice (some ⟨g, 0, none⟩) zs.length zs.length) zs := by
  refine ⟨by simp, .inr ⟨g, _, _, rfl, hb, h, Nat.le_refl _, by unfold maxLen; omega, by simp, ?_⟩⟩
  simp only [Nat.mul_one]
  exact List.take_of_length_le (by simp)

theorem Cl.len {w w' : World} {a : Option Addr} {n cap : Nat} {zs : List Int} (h : Cl w w' a n cap zs) : zs.length = n := by
  rcases h with ⟨_, rfl, _, rfl⟩ | ⟨_, _, _, h⟩
  · rfl
  · exact h
theorem Cl.own {w w' : World} {a : Option Addr} {n cap : Nat} {zs : List Int} (h : Cl w w' a n cap zs) (hn : n ≤ 1048576) : Own w' w.heap.size (.slice a n cap) zs := by
  rcases h with ⟨rfl, rfl, rfl, rfl⟩ | ⟨rfl, rfl, h, rfl⟩
  · exact Own.nil _ _
  · exact own_of_row h hn (Nat.le_refl _)
theorem Cl.full {w w' : World} {a : Option Addr} {n cap : Nat} {zs : List Int} (h : Cl w w' a n cap zs) : Full w' (.slice a n cap) zs := by
  rcases h with ⟨rfl, rfl, rfl, rfl⟩ | ⟨rfl, rfl, h, rfl⟩
  · exact .inl ⟨rfl, rfl⟩
  · exact .inr ⟨_, rfl, h⟩
theorem Cl.in {w w' : World} {a : Option Addr} {n cap : Nat} {zs : List Int} (h : Cl w w' a n cap zs) : In w' a n cap zs := by
  rcases h with h | ⟨rfl, rfl, h, hl⟩
  · exact .inl h
  · exact .inr ⟨_, rfl, h.whole hl⟩
theorem Cl.block {w w' : World} {a : Option Addr} {n cap : Nat} {zs : List Int} (h : Cl w w' a n cap zs) {g : Nat} (hg : (Value.slice a n cap).ownBlock = some g) : g = w.heap.size ∧ g < w'.heap.size := by
  rcases h with ⟨rfl, rfl, rfl, rfl⟩ | ⟨rfl, rfl, h, rfl⟩
  · simp [Value.ownBlock] at hg
  · simp [Value.ownBlock] at hg
    subst hg
    exact ⟨rfl, h.lt⟩
theorem Full.keep {w w' : World} {v : Value} {zs : List Int} (h : Full w v zs) (hk : ∀ g, v.ownBlock = some g → w'.heap[g]? = w.heap[g]?) : Full w' v zs := by
  rcases h with h | ⟨g, rfl, hr⟩
  · exact .inl h
  · exact .inr ⟨g, rfl, (hk g (by simp [Value.ownBlock])).trans hr⟩
theorem Keep.below {N : Nat} {w w' : World} (h : Keep N none w w') : Below N w w' := ⟨h.1, h.2.1, h.2.2.1, h.2.2.2.1, fun k hk => h.2.2.2.2 k hk (by simp)⟩
theorem Row.bytesX {w : World} {g N : Nat} {zs : List Int} {n : Nat} (h : Row w g zs) (hl : zs.length = n) (hg : g < N) : BytesX w N none (some ⟨g, 0, none⟩) n zs :=
  ⟨hl, .inr ⟨g, 0, rfl, hg, by simp, fun i hi => by rw [Nat.zero_add]; exact h.cell (by omega)⟩⟩
theorem grown_below {w w' : World} {r : Option Nat} {B : Nat} (h : w.grownBy w' r) (hB : B ≤ w.heap.size) (hr : ∀ k, r = some k → B ≤ k) : Below B w w' :=
  ⟨h.os, h.tape, h.output, h.size, fun k hk => h.block k (by omega) (fun e => by have := hr k e.symm; omega)⟩

/-- what Indent has to write is what the model has written -/
theorem runTo_mj {cs pre ind : List Int} {f : Nat} {r : MR} (h : mj cs pre ind f none 0 0 = some (some r)) (hrp : r.p = cs.length) (O : List Int) : RunTo cs pre ind 0 0 O (O ++ r.out) := by
  obtain ⟨g', hg⟩ := (mj_irun cs pre ind f).1 0 0 r h (.inl (by omega)) 0 [] (irun_end (by omega) 0)
  exact ⟨g', _, hg, by simp⟩

/-- how long the output is, where it fits -/
theorem mj_len {cs pre ind : List Int} {f : Nat} {r : MR} (h : mj cs pre ind f none 0 0 = some (some r)) (hf : r.ln * (1 + pre.length + r.dp * ind.length) ≤ 16777216) (hc : cs.length ≤ 1048576) : r.out.length ≤ 20000000 := by
  have hg := mj_good cs pre ind f none 0 0 r h
  have h1 := hg.2.2.2 r.dp (Nat.le_refl _)
  have h2 := hg.2.1
  omega

theorem mj_some (cs pre ind : List Int) : ∃ f P, mj cs pre ind f none 0 0 = some P := by
  refine ⟨2 * (cs.length + 1 - 0) + 1, ?_⟩
  have := mj_fuel cs pre ind (2 * (cs.length + 1 - 0) + 1) none 0 0 (Nat.le_refl _)
  cases h : mj cs pre ind (2 * (cs.length + 1 - 0) + 1) none 0 0 with
  | none => exact absurd h this
  | some P => exact ⟨P, rfl⟩
end Go.Proofs.Qxb6603067a
