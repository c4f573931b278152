/-
  THE WALKS of Indent's layout: line (47), open (34), close (35), comma (36), end (38).
-/
import Derived.Test.Qxb6603067aApp
import Derived.Test.Qxb6603067aJPlain
import Derived.WalkLawsBesides
import Derived.BigQuiet
import Derived.Deep.QuietTactic
import Derived.Deep.RegionHeld3
import Derived.Deep.RegionLaw
import Derived.Deep.DeepCutAuto
import Derived.Deep.CutBlock
import Derived.Deep.Light
namespace Go.Proofs.Qxb6603067a
open Go.RowKit
open Plain

/-- what a layout has beside its state: its block; the blocks below N, but for the row 'row', stay as they are; prefix, indent -/
structure Lay where
  B : Nat
  N : Nat
  row : Option Nat
  pre : ByteArray
  ind : ByteArray

/-- The blocks below N, but for 'row', are as they were. -/
def Keep (N : Nat) (row : Option Nat) (w w' : World) : Prop :=
  w'.os = w.os ∧ w'.tape = w.tape ∧ w'.output = w.output ∧ w.heap.size ≤ w'.heap.size ∧ ∀ k, k < N → some k ≠ row → w'.heap[k]? = w.heap[k]?

theorem Keep.refl (N : Nat) (row : Option Nat) (w : World) : Keep N row w w := ⟨rfl, rfl, rfl, Nat.le_refl _, fun _ _ _ => rfl⟩
theorem Keep.trans {N : Nat} {row : Option Nat} {a b c : World} (h : Keep N row a b) (k : Keep N row b c) : Keep N row a c :=
  ⟨k.1.trans h.1, k.2.1.trans h.2.1, k.2.2.1.trans h.2.2.1, Nat.le_trans h.2.2.2.1 k.2.2.2.1, fun i h1 h2 => (k.2.2.2.2 i h1 h2).trans (h.2.2.2.2 i h1 h2)⟩
theorem Keep.drew {N : Nat} {row : Option Nat} {a w : World} (h : Keep N row a w) : Keep N row a w.drew := h
theorem Keep.drewN {N : Nat} {row : Option Nat} {a w : World} (h : Keep N row a w) (n : Nat) : Keep N row a (w.drewN n) := h
theorem Keep.alloc {N : Nat} {row : Option Nat} {a w : World} (h : Keep N row a w) (hN : N ≤ w.heap.size) (o : Obj) : Keep N row a (w.alloc o) :=
  h.trans ⟨rfl, rfl, rfl, by simp, fun k hk _ => Below.heap_alloc _ _ _ (by omega)⟩
theorem Keep.setCell {N : Nat} {row : Option Nat} {a w : World} (h : Keep N row a w) {p : Addr} (hp : N ≤ p.block) (u : Value) : Keep N row a (w.setCell p u) :=
  h.trans ⟨rfl, rfl, rfl, by simp [World.setCell], fun k hk _ => Below.heap_setCell _ _ _ _ (by omega)⟩
theorem Keep.grown {N : Nat} {row r : Option Nat} {a w w' : World} (h : Keep N row a w) (hg : w.grownBy w' r) (hN : N ≤ w.heap.size) (hr : ∀ k, r = some k → some k = row ∨ N ≤ k) : Keep N row a w' :=
  h.trans ⟨hg.os, hg.tape, hg.output, hg.size, fun k hk hne => hg.block k (by omega) (fun e => by
    rcases hr k e.symm with h1 | h1
    · exact hne h1
    · omega)⟩

/-- bytes that lie below N, in another row than 'row' -/
def BytesX (w : World) (N : Nat) (row : Option Nat) (a : Option Addr) (len : Nat) (zs : List Int) : Prop :=
  zs.length = len ∧ (len = 0 ∨ ∃ b off, a = some ⟨b, off, none⟩ ∧ b < N ∧ some b ≠ row ∧ ∀ i, i < len → w.cell? ⟨b, off + i, none⟩ = some (.int .u8 (zs.getD i 0)))
theorem BytesX.later {w w' : World} {N : Nat} {row : Option Nat} {a : Option Addr} {len : Nat} {zs : List Int} (h : BytesX w N row a len zs) (hk : Keep N row w w') : BytesX w' N row a len zs := by
  obtain ⟨hz, h0 | ⟨b, off, ha, hb, hne, hc⟩⟩ := h
  · exact ⟨hz, .inl h0⟩
  · exact ⟨hz, .inr ⟨b, off, ha, hb, hne, fun i hi => (World.cell?_of_block (w := w) (hk.2.2.2.2 b hb hne)).trans (hc i hi)⟩⟩
theorem BytesX.bytes {w : World} {N : Nat} {row : Option Nat} {a : Option Addr} {len : Nat} {zs : List Int} (h : BytesX w N row a len zs) : Bytes w N a len zs := by
  obtain ⟨hz, h0 | ⟨b, off, ha, hb, hne, hc⟩⟩ := h
  · exact ⟨hz, .inl h0⟩
  · exact ⟨hz, .inr ⟨b, off, ha, hb, hc⟩⟩

/-- The layout's struct at block B: out, prefix, indent, depth, lines; lines hold what begins a line at level k; out and lines lie in rows of their own, apart from one another. -/
def LI (w : World) (l : Lay) (d : Nat) (out : List Int) (k : Nat) : Prop :=
  ∃ ao co al cl, w.cell? ⟨l.B, 0, none⟩ = some (.slice ao out.length co) ∧ w.cell? ⟨l.B, 1, none⟩ = some (.string l.pre) ∧ w.cell? ⟨l.B, 2, none⟩ = some (.string l.ind) ∧
    w.cell? ⟨l.B, 3, none⟩ = some (.int .i64 d) ∧ w.cell? ⟨l.B, 4, none⟩ = some (.slice al (nl (sbytes l.pre) (sbytes l.ind) k).length cl) ∧
    w.frozen? ⟨l.B, 0, none⟩ = false ∧ w.frozen? ⟨l.B, 3, none⟩ = false ∧ w.frozen? ⟨l.B, 4, none⟩ = false ∧
    Own w 0 (.slice ao out.length co) out ∧ Own w (l.B + 1) (.slice al (nl (sbytes l.pre) (sbytes l.ind) k).length cl) (nl (sbytes l.pre) (sbytes l.ind) k) ∧
    l.N ≤ l.B ∧ l.B < w.heap.size ∧ some l.B ≠ l.row ∧
    ∀ g, (Value.slice ao out.length co).ownBlock = some g → g ≠ l.B ∧ (some g = l.row ∨ l.N ≤ g) ∧ (Value.slice al (nl (sbytes l.pre) (sbytes l.ind) k).length cl).ownBlock ≠ some g


theorem ownBlock_lt {w : World} {base : Nat} {v : Value} {l : List Int} (h : Own w base v l) {g : Nat} (hg : v.ownBlock = some g) : g < w.heap.size := (h.lt g hg).2

theorem LI.alloc {w : World} {l : Lay} {d : Nat} {out : List Int} {k : Nat} (h : LI w l d out k) (o : Obj) : LI (w.alloc o) l d out k := by
  obtain ⟨ao, co, al, cl, c0, c1, c2, c3, c4, f0, f3, f4, ho, hl, hN, hB, hr, hg⟩ := h
  have cc : ∀ q, (w.alloc o).cell? ⟨l.B, q, none⟩ = w.cell? ⟨l.B, q, none⟩ := fun q => World.cell?_of_block (w := w) (Below.heap_alloc _ _ _ hB)
  have ff : ∀ q, (w.alloc o).frozen? ⟨l.B, q, none⟩ = w.frozen? ⟨l.B, q, none⟩ := fun q => World.frozen?_of_block (w := w) (Below.heap_alloc _ _ _ hB)
  exact ⟨ao, co, al, cl, (cc 0).trans c0, (cc 1).trans c1, (cc 2).trans c2, (cc 3).trans c3, (cc 4).trans c4, (ff 0).trans f0, (ff 3).trans f3, (ff 4).trans f4,
    World.ownsRow.alloc ho _, World.ownsRow.alloc hl _, hN, by simp; omega, hr, hg⟩

theorem LI.drew {w : World} {l : Lay} {d : Nat} {out : List Int} {k : Nat} (h : LI w l d out k) : LI w.drew l d out k := h
theorem LI.drewN {w : World} {l : Lay} {d : Nat} {out : List Int} {k : Nat} (h : LI w l d out k) (n : Nat) : LI (w.drewN n) l d out k := h

theorem own_setCell {w : World} {base : Nat} {v : Value} {l : List Int} (h : Own w base v l) {a : Addr} (ha : v.ownBlock ≠ some a.block) (u : Value) : Own (w.setCell a u) base v l := by
  refine ⟨h.1, ?_⟩
  rcases h.2 with hn | ⟨g, cap, cur, rfl, hb, hgg, rest⟩
  · exact .inl hn
  · refine .inr ⟨g, cap, cur, rfl, hb, ?_, rest⟩
    rw [Below.heap_setCell _ _ _ _ (fun e => ha (by simp [Value.ownBlock, e]))]
    exact hgg

/-- behind an append to out, and the store of the new slice -/
theorem LI.wrote {w w1 : World} {l : Lay} {d : Nat} {out out' : List Int} {k : Nat} {ao : Option Addr} {co : Nat} {a' : Option Addr} {n' c' : Nat} (h : LI w l d out k) (hc : w.cell? ⟨l.B, 0, none⟩ = some (.slice ao out.length co))
    (hg : w.grownBy w1 (Value.slice ao out.length co).ownBlock) (ho' : Own w1 0 (.slice a' n' c') out') (hl' : Lies w (.slice ao out.length co) (.slice a' n' c')) (hn : n' = out'.length) :
    LI (w1.setCell ⟨l.B, 0, none⟩ (.slice a' n' c')) l d out' k ∧ Keep l.N l.row w (w1.setCell ⟨l.B, 0, none⟩ (.slice a' n' c')) ∧ w1.cell? ⟨l.B, 0, none⟩ = some (.slice ao out.length co) ∧ w1.frozen? ⟨l.B, 0, none⟩ = false := by
  subst hn
  obtain ⟨ao', co', al, cl, c0, c1, c2, c3, c4, f0, f3, f4, ho, hl, hN, hB, hr, hgg⟩ := h
  rw [hc] at c0
  simp only [Option.some.injEq, Value.slice.injEq] at c0
  obtain ⟨rfl, _, rfl⟩ := c0
  have hnB : some l.B ≠ (Value.slice ao out.length co).ownBlock := fun e => (hgg l.B e.symm).1 rfl
  have cc : ∀ q, w1.cell? ⟨l.B, q, none⟩ = w.cell? ⟨l.B, q, none⟩ := fun q => World.cell?_of_block (w := w) (hg.block l.B hB hnB)
  have ff : ∀ q, w1.frozen? ⟨l.B, q, none⟩ = w.frozen? ⟨l.B, q, none⟩ := fun q => World.frozen?_of_block (w := w) (hg.block l.B hB hnB)
  have hsz := hg.size
  have hlk : Own w1 (l.B + 1) (.slice al (nl (sbytes l.pre) (sbytes l.ind) k).length cl) (nl (sbytes l.pre) (sbytes l.ind) k) := by
    refine hl.kept hg ?_
    cases e : (Value.slice al (nl (sbytes l.pre) (sbytes l.ind) k).length cl).ownBlock with
    | none => exact .inl rfl
    | some g2 =>
      refine .inr (fun e2 => ?_)
      have := (hgg g2 (by rw [← e2])).2.2
      exact this e
  have hnew : ∀ g, (Value.slice a' out'.length c').ownBlock = some g → g ≠ l.B ∧ (some g = l.row ∨ l.N ≤ g) ∧ (Value.slice al (nl (sbytes l.pre) (sbytes l.ind) k).length cl).ownBlock ≠ some g := by
    intro g e
    rcases hl' with h1 | h1
    · exact hgg g (by rw [← h1]; exact e)
    · rw [h1] at e
      cases e
      refine ⟨by omega, .inr (by omega), fun e2 => ?_⟩
      have := ownBlock_lt hl e2
      omega
  refine ⟨⟨a', c', al, cl, ?_, ?_, ?_, ?_, ?_, ?_, ?_, ?_, own_setCell ho' (fun e => (hnew _ e).1 rfl) _, own_setCell hlk (fun e => by have h9 : l.B + 1 ≤ l.B := (hl.lt _ e).1; omega) _, hN, by simp; omega, hr, hnew⟩, ?_, (cc 0).trans hc, (ff 0).trans f0⟩
  · simp [go_sem, cc, hc]
  · simp [go_sem, cc, c1]
  · simp [go_sem, cc, c2]
  · simp [go_sem, cc, c3]
  · simp [go_sem, cc, c4]
  · simp [go_sem, ff, f0]
  · simp [go_sem, ff, f3]
  · simp [go_sem, ff, f4]
  · refine ((Keep.refl _ _ w).grown hg (by omega) (fun q e => (hgg q e).2.1)).setCell (by exact hN) _

/-- behind an append of one indent to lines, and the store of the new slice -/
theorem LI.lined {w w1 : World} {l : Lay} {d : Nat} {out : List Int} {k : Nat} {al : Option Addr} {cl : Nat} {a' : Option Addr} {n' c' : Nat} (h : LI w l d out k)
    (hc : w.cell? ⟨l.B, 4, none⟩ = some (.slice al (nl (sbytes l.pre) (sbytes l.ind) k).length cl))
    (hg : w.grownBy w1 (Value.slice al (nl (sbytes l.pre) (sbytes l.ind) k).length cl).ownBlock) (ho' : Own w1 (l.B + 1) (.slice a' n' c') (nl (sbytes l.pre) (sbytes l.ind) k ++ sbytes l.ind))
    (hl' : Lies w (.slice al (nl (sbytes l.pre) (sbytes l.ind) k).length cl) (.slice a' n' c')) (hn : n' = (nl (sbytes l.pre) (sbytes l.ind) (k + 1)).length) :
    LI (w1.setCell ⟨l.B, 4, none⟩ (.slice a' n' c')) l d out (k + 1) ∧ Keep l.N l.row w (w1.setCell ⟨l.B, 4, none⟩ (.slice a' n' c')) ∧
      w1.cell? ⟨l.B, 4, none⟩ = some (.slice al (nl (sbytes l.pre) (sbytes l.ind) k).length cl) ∧ w1.frozen? ⟨l.B, 4, none⟩ = false := by
  subst hn
  have hnl : nl (sbytes l.pre) (sbytes l.ind) k ++ sbytes l.ind = nl (sbytes l.pre) (sbytes l.ind) (k + 1) := by simp [nl, reps_succ']
  rw [hnl] at ho'
  obtain ⟨ao, co, al', cl', c0, c1, c2, c3, c4, f0, f3, f4, ho, hl, hN, hB, hr, hgg⟩ := h
  rw [hc] at c4
  simp only [Option.some.injEq, Value.slice.injEq] at c4
  obtain ⟨rfl, _, rfl⟩ := c4
  have hnB : some l.B ≠ (Value.slice al (nl (sbytes l.pre) (sbytes l.ind) k).length cl).ownBlock := fun e => by have := (hl.lt l.B e.symm).1; omega
  have cc : ∀ q, w1.cell? ⟨l.B, q, none⟩ = w.cell? ⟨l.B, q, none⟩ := fun q => World.cell?_of_block (w := w) (hg.block l.B hB hnB)
  have ff : ∀ q, w1.frozen? ⟨l.B, q, none⟩ = w.frozen? ⟨l.B, q, none⟩ := fun q => World.frozen?_of_block (w := w) (hg.block l.B hB hnB)
  have hsz := hg.size
  have hok : Own w1 0 (.slice ao out.length co) out := by
    refine ho.kept hg ?_
    cases e : (Value.slice ao out.length co).ownBlock with
    | none => exact .inl rfl
    | some g2 => exact .inr (fun e2 => (hgg g2 e).2.2 e2.symm)
  have hnew : ∀ g, (Value.slice ao out.length co).ownBlock = some g → g ≠ l.B ∧ (some g = l.row ∨ l.N ≤ g) ∧ (Value.slice a' (nl (sbytes l.pre) (sbytes l.ind) (k + 1)).length c').ownBlock ≠ some g := by
    intro g e
    refine ⟨(hgg g e).1, (hgg g e).2.1, fun e2 => ?_⟩
    rcases hl' with h1 | h1
    · exact (hgg g e).2.2 (h1.symm.trans e2)
    · rw [h1] at e2
      cases e2
      have := ownBlock_lt ho e
      omega
  refine ⟨⟨ao, co, a', c', ?_, ?_, ?_, ?_, ?_, ?_, ?_, ?_, own_setCell hok (fun e => (hgg _ e).1 rfl) _, own_setCell ho' (fun e => by have h9 : l.B + 1 ≤ l.B := (ho'.lt _ e).1; omega) _, hN, by simp; omega, hr, hnew⟩, ?_, (cc 4).trans hc, (ff 4).trans f4⟩
  · simp [go_sem, cc, c0]
  · simp [go_sem, cc, c1]
  · simp [go_sem, cc, c2]
  · simp [go_sem, cc, c3]
  · simp [go_sem, cc, hc]
  · simp [go_sem, ff, f0]
  · simp [go_sem, ff, f3]
  · simp [go_sem, ff, f4]
  · refine ((Keep.refl _ _ w).grown hg (by omega) (fun q e => .inr (by have := (hl.lt q e).1; omega))).setCell (by exact hN) _

theorem LI.lined' {w w1 : World} {l : Lay} {d : Nat} {out O : List Int} {k L : Nat} {al : Option Addr} {cl : Nat} {a' : Option Addr} {c' : Nat} (h : LI w l d out k) (hO : O = nl (sbytes l.pre) (sbytes l.ind) k) (hL : L = O.length)
    (hc : w.cell? ⟨l.B, 4, none⟩ = some (.slice al L cl)) (hg : w.grownBy w1 (Value.slice al L cl).ownBlock) (ho' : Own w1 (l.B + 1) (.slice a' (O.length + l.ind.size) c') (O ++ sbytes l.ind))
    (hl' : Lies w (.slice al L cl) (.slice a' (O.length + l.ind.size) c')) :
    LI (w1.setCell ⟨l.B, 4, none⟩ (.slice a' (O.length + l.ind.size) c')) l d out (k + 1) ∧ Keep l.N l.row w (w1.setCell ⟨l.B, 4, none⟩ (.slice a' (O.length + l.ind.size) c')) ∧
      w1.cell? ⟨l.B, 4, none⟩ = some (.slice al L cl) ∧ w1.frozen? ⟨l.B, 4, none⟩ = false := by
  subst hL hO
  exact h.lined hc hg ho' hl' (by rw [nl_length, nl_length, sbytes_length, sbytes_length, Nat.succ_mul]; omega)

theorem LI.setD {w : World} {l : Lay} {d : Nat} {out : List Int} {k : Nat} (h : LI w l d out k) (d' : Nat) (x : Int) (hx : x = d') :
    LI (w.setCell ⟨l.B, 3, none⟩ (.int .i64 x)) l d' out k ∧ Keep l.N l.row w (w.setCell ⟨l.B, 3, none⟩ (.int .i64 x)) := by
  subst hx
  obtain ⟨ao, co, al, cl, c0, c1, c2, c3, c4, f0, f3, f4, ho, hl, hN, hB, hr, hgg⟩ := h
  refine ⟨⟨ao, co, al, cl, ?_, ?_, ?_, ?_, ?_, ?_, ?_, ?_, own_setCell ho (fun e => (hgg _ e).1 rfl) _, own_setCell hl (fun e => by have h9 : l.B + 1 ≤ l.B := (hl.lt _ e).1; omega) _, hN, by simpa using hB, hr, hgg⟩, (Keep.refl _ _ w).setCell (by exact hN) _⟩
  all_goals simp [go_sem, *]


theorem nl_take {pre ind : List Int} {d k : Nat} (h : d * ind.length ≤ k * ind.length) : (nl pre ind k).take (1 + pre.length + d * ind.length) = nl pre ind d := by
  by_cases h0 : ind.length = 0
  · have hi : ind = [] := List.length_eq_zero_iff.mp h0
    have hr : ∀ n, reps n ind = [] := by
      intro n
      induction n with
      | zero => rfl
      | succ n ih => rw [reps, ih, hi]; rfl
    rw [List.take_of_length_le (by rw [nl_length, h0]; simp)]
    simp [nl, hr]
  · have hdk : d ≤ k := Nat.le_of_mul_le_mul_right h (by omega)
    obtain ⟨e, rfl⟩ : ∃ e, k = d + e := ⟨k - d, by omega⟩
    have : nl pre ind (d + e) = nl pre ind d ++ reps e ind := by simp [nl, reps_add]
    rw [this, List.take_append_of_le_length (by rw [nl_length]; omega), List.take_of_length_le (by rw [nl_length]; omega)]

theorem Bytes.pre {w : World} {B : Nat} {a : Option Addr} {len : Nat} {zs : List Int} (h : Bytes w B a len zs) {m : Nat} (hm : m ≤ len) : Bytes w B a m (zs.take m) := by
  obtain ⟨hz, h0 | ⟨b, off, ha, hb, hc⟩⟩ := h
  · exact ⟨by simp; omega, .inl (by omega)⟩
  · exact ⟨by simp; omega, .inr ⟨b, off, ha, hb, fun i hi => by rw [hc i (by omega)]; simp [List.getD_eq_getElem?_getD, hi]⟩⟩

def sliceLen (v : Option Value) : Nat := match v with
  | some (.slice _ n _) => n
  | _ => 0

set_option maxRecDepth 10000 in
set_option maxHeartbeats 1000000 in
theorem line_any (l : Lay) (d : Nat) (out : List Int) (k : Nat) (w : World) (h : LI w l d out k) (hp : l.pre.size ≤ 1048576) (hi : l.ind.size ≤ 1048576) (hn : 1 + l.pre.size + d * l.ind.size ≤ 1099511627776) (_hd : d ≤ 1048577)
    (hsz : out.length + (nl (sbytes l.pre) (sbytes l.ind) d).length ≤ 140737488355328) :
    Calls Try.prog 47 #[.pointer (some ⟨l.B, 0, none⟩)] w fun x w' => x = .returned (.tuple #[]) ∧ (∃ k', LI w' l d (out ++ nl (sbytes l.pre) (sbytes l.ind) d) k') ∧ Keep l.N l.row w w' := by
  have h' := h
  obtain ⟨ao, co, al, cl, c0, c1, c2, c3, c4, f0, f3, f4, ho, hl, hN, hB, hr, hgg⟩ := h'
  obtain ⟨n, hne⟩ : ∃ n : Nat, n = d * l.ind.size := ⟨_, rfl⟩
  have hmul : (d : Int) * (l.ind.size : Int) = (n : Int) := by rw [hne]; simp
  have HNE : Hid _ := hne
  rw [← hne] at hn
  clear hne
  have HSZ : Hid _ := hsz
  clear hsz
  go_enter Try.func47, Try.ntmps47
  go_wp2
  go_quiet (fail)
  go_wp2
  clear c0 c1 c2 c3 c4 f0 f3 f4 ho hl hN hB hr hgg hmul ao co al cl
  go_loopw [] (fun wr => ∃ k', LI wr l d out k' ∧ Keep l.N l.row w wr) (fun wr => 1 + l.pre.size + n - sliceLen (wr.cell? ⟨l.B, 4, none⟩))
  case atStart => exact ⟨k, h.drewN _, (Keep.refl _ _ w).drewN _⟩
  case round =>
    obtain ⟨k', hr', hK⟩ := hrel
    clear h
    have h' := hr'
    obtain ⟨ao, co, al, cl, c0, c1, c2, c3, c4, f0, f3, f4, ho, hl, hN, hB, hrow, hgg⟩ := h'
    obtain ⟨O, hO⟩ : ∃ O, O = nl (sbytes l.pre) (sbytes l.ind) k' := ⟨_, rfl⟩
    have HO : Hid _ := hO
    rw [← hO] at c4 hl hgg
    obtain ⟨L, hL⟩ : ∃ L, L = O.length := ⟨_, rfl⟩
    have HL : Hid _ := hL
    rw [← hL] at c4 hl hgg
    have hLn : Hid (L = 1 + l.pre.size + k' * l.ind.size) := by show L = _; rw [hL, hO, nl_length, sbytes_length, sbytes_length]
    clear hO hL
    by_cases hlt : L < 1 + l.pre.size + n
    · have hbnd : O.length + l.ind.size ≤ 140737488355328 := by rw [← HL.out]; omega
      have hpos : 0 < l.ind.size := by
        apply Nat.pos_of_ne_zero
        intro e
        have h1 := hLn.out
        have h2 := HNE.out
        rw [e] at h1 h2
        simp at h1 h2
        omega
      clear hgg ho c0 c3
      go_wp2
      go_region_law (refine step_app_str rfl _ _ rfl (l.B + 1) _ O rfl hl l.ind rfl hbnd (by simp; omega) ?_; intro a2 c2' w2 ho2 hg2 hl2; obtain ⟨hLI, hKp, hc4', hf4'⟩ := LI.lined' (w := wr.drew) hr' HO.out HL.out c4 hg2 ho2 hl2)
      all_goals
        go_wp2
        go_roundw
        case rel => exact ⟨k' + 1, hLI, hK.drew.trans hKp⟩
        case measure =>
          obtain ⟨_, _, _, _, _, _, _, _, k4, _⟩ := hLI
          have h4 := HL.out
          have h5 := hLn.out
          rw [k4, c4]
          show 1 + l.pre.size + n - (nl (sbytes l.pre) (sbytes l.ind) (k' + 1)).length < 1 + l.pre.size + n - L
          rw [nl_length, sbytes_length, sbytes_length, Nat.succ_mul]
          go_light
          omega
    · have hbd : O.take (1 + l.pre.size + n) = nl (sbytes l.pre) (sbytes l.ind) d := by
        have h1 := hLn.out
        have h2 := HNE.out
        rw [HO.out, h2]
        have := nl_take (pre := sbytes l.pre) (ind := sbytes l.ind) (d := d) (k := k') (by rw [sbytes_length]; omega)
        rw [sbytes_length, sbytes_length] at this
        exact this
      obtain ⟨g, rfl, hcap⟩ : ∃ g, al = some ⟨g, 0, none⟩ ∧ L ≤ cl := by
        rcases hl.2 with ⟨e, _⟩ | ⟨g, cap, cur, e, _, _, h1, _⟩
        · simp only [Value.slice.injEq] at e
          omega
        · simp only [Value.slice.injEq] at e
          exact ⟨g, e.1, by rw [HL.out, e.2.2]; exact h1⟩
      have hby : Hid (Bytes wr wr.heap.size (some ⟨g, 0, none⟩) (1 + l.pre.size + n) (nl (sbytes l.pre) (sbytes l.ind) d)) := by
        obtain ⟨a, cap, e, _, hb⟩ := hl.bytes (Nat.le_refl _)
        simp only [Value.slice.injEq] at e
        rw [← hbd, e.1]
        exact hb.pre (by rw [← HL.out]; omega)
      have hos : Hid (out.length + (1 + l.pre.size + n) ≤ 140737488355328) := by
        have := HSZ.out
        rw [nl_length, sbytes_length, sbytes_length, ← HNE.out] at this
        show _ ≤ _
        omega
      clear hbd hl
      have hcl : (1 : Int) + (l.pre.size : Int) + (n : Int) ≤ (cl : Int) := by omega
      have hc0 : (0 : Int) ≤ (1 : Int) + (l.pre.size : Int) + (n : Int) := by omega
      clear hgg
      go_wp2
      go_region_law (refine step_app_bytes rfl _ _ rfl 0 _ out rfl ho _ (1 + l.pre.size + n) cl _ rfl _ hby.out (by simp) hos.out (Nat.zero_le _) ?_; intro a2 c2' w2 ho2 hg2 hl2; obtain ⟨hLI, hKp, hc4', hf4'⟩ := LI.wrote (w := wr.drew) hr' c0 hg2 ho2 hl2 (by simp [nl_length, sbytes_length, HNE.out]))
      all_goals
        go_wp2
        go_end0
        exact ⟨rfl, ⟨k', hLI⟩, hK.drew.trans hKp⟩
end Go.Proofs.Qxb6603067a
