/-
  SHARED: a row of bytes that the call itself has made ('make' and 'copy' at the head of every law), and slices of it.
-/
import Derived.Test.Qxb6603067aRows
import Derived.Test.Qxb6603067aScanWalk
import Derived.WalkKit
import Derived.WalkSpells
import Derived.Laws.CopyOwn
namespace Go.Proofs.Qxb6603067a
open Go.RowKit

theorem Try.info5 : (Try.prog.info? 5).map (fun i => (i.zero, i.size, i.bytes)) = some (some (.int .u8 0), 1, 1) := by kernel_rfl

/-- block g holds the bytes zs, and no cell more -/
def Row (w : World) (g : Nat) (zs : List Int) : Prop := w.heap[g]? = some (.cells (zs.map (Value.int .u8)).toArray 5 (0, 0))

theorem Row.cell {w : World} {g : Nat} {zs : List Int} (h : Row w g zs) {i : Nat} (hi : i < zs.length) : w.cell? ⟨g, i, none⟩ = some (.int .u8 (zs.getD i 0)) := by
  unfold Row at h
  simp [World.cell?, h, hi]

theorem Row.lt {w : World} {g : Nat} {zs : List Int} (h : Row w g zs) : g < w.heap.size := (Array.getElem?_eq_some_iff.1 h).1

theorem Row.later {w w' : World} {g B : Nat} {zs : List Int} (h : Row w g zs) (hb : Below B w w') (hg : g < B) : Row w' g zs := (hb.block g hg).trans h

theorem Row.bytes {w : World} {g B : Nat} {zs : List Int} (h : Row w g zs) (hB : g < B) (lo n : Nat) (hn : lo + n ≤ zs.length) : Bytes w B (some ⟨g, lo, none⟩) n ((zs.drop lo).take n) := by
  refine ⟨by simp; omega, .inr ⟨g, lo, rfl, hB, fun i hi => ?_⟩⟩
  rw [h.cell (by omega)]
  congr 2
  simp [List.getD_eq_getElem?_getD, hi]

theorem Bytes.empty (w : World) (B : Nat) (a : Option Addr) : Bytes w B a 0 [] := ⟨rfl, .inl rfl⟩

theorem wpList_make_bytes {w : World} {ops : Array Oper} {rest : List Oper} {o : Oper} {a : Act} {Q : Exit → Act → World → Prop}
    (hg : o.guard = none) (l c : Operand) (hop : o.op = Op.makeSlice 22 l c) (kl kc : IntKind) (L C : Int) (n : Nat) (hl : a.eval l = .int kl L) (hc : a.eval c = .int kc C)
    (hL : L = (n : Int)) (hC : C = (n : Int)) (hn : n ≤ 281474976710656)
    (hK : ∀ w', Hid (w'.heap.size = w.heap.size + 1) → Row w' w.heap.size (List.replicate n 0) → Below w.heap.size w w' → wpList Try.prog ops Q rest (a.put o.dst (.slice (some ⟨w.heap.size, 0, none⟩) n n)) w') :
    wpList Try.prog ops Q (o :: rest) a w := by
  refine wpList_plain hg fun K hK' => ?_
  subst hL
  subst hC
  obtain ⟨i, hi, hz0, hz1, hz2⟩ := info_parts Try.info5
  have hrun := run_make (P := Try.prog) w 22 5 i (.int .u8 0) Try.underlying22 hi hz0 kl kc n n (by omega) (Int.le_refl _) (by rw [hz2]; omega) (by omega)
  unfold Oper.wp
  simp [execOp, hop, hl, hc, hrun, Result.andThen]
  refine hK' _ _ (hK _ ?_ ?_ ?_)
  · show _ = _
    simp
  · show (w.heap.push _)[w.heap.size]? = _
    rw [Array.getElem?_push_size, hz1, Nat.mul_one]
    have e : madeCells (Value.int .u8 0).cells n = ((List.replicate n (0 : Int)).map (Value.int .u8)).toArray := by
      apply Array.toList_inj.1
      rw [show (Value.int .u8 0).cells = #[Value.int .u8 0] from rfl, toList_madeCells_one]
      simp
    rw [e]
  · exact (Below.refl _ _).alloc (Nat.le_refl _) _

theorem wpList_copy_bytes {w : World} {ops : Array Oper} {rest : List Oper} {o : Oper} {a : Act} {Q : Exit → Act → World → Prop} (hgd : o.guard = none) (d s : Operand)
    (ho : o.op = .call { callee := .builtin .copy, args := #[d, s], argTypes := #[22, 22] })
    (g n dCap sCap : Nat) (sp : Option Addr) (old zs : List Int) (hd : a.eval d = .slice (some ⟨g, 0, none⟩) n dCap) (hs : a.eval s = .slice sp n sCap)
    (hold : Row w g old) (holdn : old.length = n) (B : Nat) (hsrc : Bytes w B sp n zs)
    (h : ∀ w', Row w' g zs → Below g w w' → wpList Try.prog ops Q rest (a.put o.dst (goInt n)) w') : wpList Try.prog ops Q (o :: rest) a w := by
  obtain ⟨hzn, hsrc⟩ := hsrc
  have hmin : (zs.map (Value.int .u8)).length = Nat.min n n := by simp [hzn]
  refine wpList_copy_splice hgd d s 22 22 ho 5 Try.underlying22 (by kernel_rfl) (some ⟨g, 0, none⟩) sp n dCap n sCap hd hs g 0 (old.map (Value.int .u8)) 5 hold (zs.map (Value.int .u8)) hmin ?_ (by simp; omega) ?_ g w (Below.refl _ _) (Nat.le_refl _) ?_
  · intro hpos
    refine ⟨rfl, ?_⟩
    rcases hsrc with h0 | ⟨b, off, rfl, _, hc⟩
    · simp at hpos; omega
    · refine ⟨_, rfl, fun j v hj => ?_⟩
      have hjl : j < n := by
        have := (List.getElem?_eq_some_iff.1 hj).1
        simp at this; omega
      have hcj := hc j hjl
      have ha : (⟨b, off, none⟩ : Addr).add j = ⟨b, off + j, none⟩ := by
        unfold Addr.add; split <;> simp_all
      rw [ha, hcj]
      simp only [List.getElem?_map] at hj
      rw [← hj]
      simp [List.getD_eq_getElem?_getD, show j < zs.length by omega]
  · intro v hv
    simp at hv
    obtain ⟨x, _, rfl⟩ := hv
    rfl
  · intro w' h1 h2
    have h1' := h1.out
    have hr : Row w' g zs := by
      unfold Row
      rw [h1']
      simp [splice, hzn, holdn]
    simpa [hzn] using h w' hr h2

/-- a slice of bytes that came in, not nil, as 'Bytes' says it -/
theorem bytes_of_cells {w : World} {x : Addr} {len cap : Nat} {zs : List Int} (hl : len ≤ cap) (hz : zs.length = cap)
    (hc : ∀ i, i < zs.length → w.cell? (x.add i) = some (.int .u8 (zs.getD i 0))) : Bytes w w.heap.size (some x) len (zs.take len) := by
  refine ⟨by simp; omega, ?_⟩
  by_cases h0 : len = 0
  · exact .inl h0
  · obtain ⟨b, off, spot⟩ := x
    have h1 := hc 0 (by omega)
    have h1' : w.cell? ⟨b, off, spot⟩ = some (.int .u8 (zs.getD 0 0)) := h1
    have hsp : spot = none := by
      unfold World.cell? at h1'
      split at h1'
      · cases spot with
        | none => rfl
        | some v => simp at h1'
      · simp at h1'
    subst hsp
    refine .inr ⟨b, off, rfl, World.block_lt_of_cell? _ _ h1', fun i hi => ?_⟩
    have hi' := hc i (by omega)
    have ha : (⟨b, off, none⟩ : Addr).add i = ⟨b, off + i, none⟩ := by
      unfold Addr.add; split <;> simp_all
    rw [ha] at hi'
    rw [hi']
    simp [List.getD_eq_getElem?_getD, hi]


end Go.Proofs.Qxb6603067a
