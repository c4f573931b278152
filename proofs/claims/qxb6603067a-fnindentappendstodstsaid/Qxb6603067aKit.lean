/-
  SHARED: a row of bytes that the call itself has made ('make' and 'copy' at the head of every law), and slices of it.
-/
import Derived.Test.Qxb6603067aRows
import Derived.Test.Qxb6603067aScanWalk
import Derived.WalkKit
import Derived.WalkSpells
import Derived.Laws.CopyOwn
namespace Go.Proofs.Qxb6603067a
open Go.RowKit

theorem Try.info5 : (Try.prog.info? 5).map (fun i => (i.zero, i.size, i.bytes)) = some (some (.int .u8 0), 1, 1) := by kernel_rfl

/-- block g holds the bytes zs, and no cell more -/
def Row (w : World) (g : Nat) (zs : List Int) : Prop := w.heap[g]? = some (.cells (zs.map (Value.int .u8)).toArray 5 (0, 0))

theorem Row.cell {w : World} {g : Nat} {zs : List Int} (h : Row w g zs) {i : Nat} (hi : i < zs.length) : w.cell? ⟨g, i, none⟩ = some (.int .u8 (zs.getD i 0)) := by
  unfold Row at h
  simp [World.cell?, h, hi]

theorem Row.lt {w : World} {g : Nat} {zs : List Int} (h : Row w g zs) : g < w.heap.size := (Array.getElem?_eq_some_iff.1 h).1

theorem Row.later {w w' : World} {g B : Nat} {zs : List Int} (h : Row w g zs) (hb : Below B w w') (hg : g < B) : Row w' g zs := (hb.block g hg).trans h

theorem Row.bytes {w : World} {g B : Nat} {zs : List Int} (h : Row w g zs) (hB : g < B) (lo n : Nat) (hn : lo + n ≤ zs.length) : Bytes w B (some ⟨g, lo, none⟩) n ((zs.drop lo).take n) := by
  refine ⟨by simp; omega, .inr ⟨g, lo, rfl, hB, fun i hi => ?_⟩⟩
  rw [h.cell (by omega)]
  congr 2
  simp [List.getD_eq_getElem?_getD, hi]

theorem Row.whole {w : World} {g : Nat} {zs : List Int} {len : Nat} (h : Row w g zs) (hl : zs.length = len) : Bytes w w.heap.size (some ⟨g, 0, none⟩) len zs := by
  have := h.bytes h.lt 0 len (by omega)
  simpa [List.take_of_length_le (show zs.length ≤ len by omega)] using this

theorem Bytes.empty (w : World) (B : Nat) (a : Option Addr) : Bytes w B a 0 [] := ⟨rfl, .inl rfl⟩

theorem wpList_make_bytes {w : World} {ops : Array Oper} {rest : List Oper} {o : Oper} {a : Act} {Q : Exit → Act → World → Prop}
    (hg : o.guard = none) (l c : Operand) (hop : o.op = Op.makeSlice 22 l c) (kl kc : IntKind) (L C : Int) (n : Nat) (hl : a.eval l = .int kl L) (hc : a.eval c = .int kc C)
    (hL : L = (n : Int)) (hC : C = (n : Int)) (hn : n ≤ 281474976710656)
    (hK : ∀ w', Hid (w'.heap.size = w.heap.size + 1) → Row w' w.heap.size (List.replicate n 0) → Below w.heap.size w w' → wpList Try.prog ops Q rest (a.put o.dst (.slice (some ⟨w.heap.size, 0, none⟩) n n)) w') :
    wpList Try.prog ops Q (o :: rest) a w := by
  refine wpList_plain hg fun K hK' => ?_
  subst hL
  subst hC
  obtain ⟨i, hi, hz0, hz1, hz2⟩ := info_parts Try.info5
  have hrun := run_make (P := Try.prog) w 22 5 i (.int .u8 0) Try.underlying22 hi hz0 kl kc n n (by omega) (Int.le_refl _) (by rw [hz2]; omega) (by omega)
  unfold Oper.wp
  simp [execOp, hop, hl, hc, hrun, Result.andThen]
  refine hK' _ _ (hK _ ?_ ?_ ?_)
  · show _ = _
    simp
  · show (w.heap.push _)[w.heap.size]? = _
    rw [Array.getElem?_push_size, hz1, Nat.mul_one]
    have e : madeCells (Value.int .u8 0).cells n = ((List.replicate n (0 : Int)).map (Value.int .u8)).toArray := by
      apply Array.toList_inj.1
      rw [show (Value.int .u8 0).cells = #[Value.int .u8 0] from rfl, toList_madeCells_one]
      simp
    rw [e]
  · exact (Below.refl _ _).alloc (Nat.le_refl _) _

theorem wpList_copy_bytes {w : World} {ops : Array Oper} {rest : List Oper} {o : Oper} {a : Act} {Q : Exit → Act → World → Prop} (hgd : o.guard = none) (d s : Operand)
    (ho : o.op = .call { callee := .builtin .copy, args := #[d, s], argTypes := #[22, 22] })
    (g n dCap sCap : Nat) (sp : Option Addr) (old zs : List Int) (hd : a.eval d = .slice (some ⟨g, 0, none⟩) n dCap) (hs : a.eval s = .slice sp n sCap)
    (hold : Row w g old) (holdn : old.length = n) (B : Nat) (hsrc : Bytes w B sp n zs)
    (h : ∀ w', Row w' g zs → Below g w w' → wpList Try.prog ops Q rest (a.put o.dst (goInt n)) w') : wpList Try.prog ops Q (o :: rest) a w := by
  obtain ⟨hzn, hsrc⟩ := hsrc
  have hmin : (zs.map (Value.int .u8)).length = Nat.min n n := by simp [hzn]
  refine wpList_copy_splice hgd d s 22 22 ho 5 Try.underlying22 (by kernel_rfl) (some ⟨g, 0, none⟩) sp n dCap n sCap hd hs g 0 (old.map (Value.int .u8)) 5 hold (zs.map (Value.int .u8)) hmin ?_ (by simp; omega) ?_ g w (Below.refl _ _) (Nat.le_refl _) ?_
  · intro hpos
    refine ⟨rfl, ?_⟩
    rcases hsrc with h0 | ⟨b, off, rfl, _, hc⟩
    · simp at hpos; omega
    · refine ⟨_, rfl, fun j v hj => ?_⟩
      have hjl : j < n := by
        have := (List.getElem?_eq_some_iff.1 hj).1
        simp at this; omega
      have hcj := hc j hjl
      have ha : (⟨b, off, none⟩ : Addr).add j = ⟨b, off + j, none⟩ := by
        unfold Addr.add; split <;> simp_all
      rw [ha, hcj]
      simp only [List.getElem?_map] at hj
      rw [← hj]
      simp [List.getD_eq_getElem?_getD, show j < zs.length by omega]
  · intro v hv
    simp at hv
    obtain ⟨x, _, rfl⟩ := hv
    rfl
  · intro w' h1 h2
    have h1' := h1.out
    have hr : Row w' g zs := by
      unfold Row
      rw [h1']
      simp [splice, hzn, holdn]
    simpa [hzn] using h w' hr h2

/-- a slice of bytes that came in, not nil, as 'Bytes' says it -/
theorem bytes_of_cells {w : World} {x : Addr} {len cap : Nat} {zs : List Int} (hl : len ≤ cap) (hz : zs.length = cap)
    (hc : ∀ i, i < zs.length → w.cell? (x.add i) = some (.int .u8 (zs.getD i 0))) : Bytes w w.heap.size (some x) len (zs.take len) := by
  refine ⟨by simp; omega, ?_⟩
  by_cases h0 : len = 0
  · exact .inl h0
  · obtain ⟨b, off, spot⟩ := x
    have h1 := hc 0 (by omega)
    have h1' : w.cell? ⟨b, off, spot⟩ = some (.int .u8 (zs.getD 0 0)) := h1
    have hsp : spot = none := by
      unfold World.cell? at h1'
      split at h1'
      · cases spot with
        | none => rfl
        | some v => simp at h1'
      · simp at h1'
    subst hsp
    refine .inr ⟨b, off, rfl, World.block_lt_of_cell? _ _ h1', fun i hi => ?_⟩
    have hi' := hc i (by omega)
    have ha : (⟨b, off, none⟩ : Addr).add i = ⟨b, off + i, none⟩ := by
      unfold Addr.add; split <;> simp_all
    rw [ha] at hi'
    rw [hi']
    simp [List.getD_eq_getElem?_getD, hi]

/-! ### a slice of bytes that the call itself has made and may append to -/
/-- v owns the bytes l, in a block from 'base' on (or is nil, and l is empty) -/
def Own (w : World) (base : Nat) (v : Value) (l : List Int) : Prop := w.ownsRow base 5 1 v l.length (l.map (Value.int .u8))

theorem Own.nil (w : World) (base : Nat) : Own w base (.slice none 0 0) [] := World.ownsRow_nil _ _ _ _

theorem Own.shape {w : World} {base : Nat} {v : Value} {l : List Int} (h : Own w base v l) :
    (v = .slice none 0 0 ∧ l = []) ∨ ∃ g cap, v = .slice (some ⟨g, 0, none⟩) l.length cap ∧ base ≤ g ∧ g < w.heap.size ∧ l.length ≤ cap ∧ (∀ i, i < l.length → w.cell? ⟨g, i, none⟩ = some (.int .u8 (l.getD i 0))) := by
  have h0 : Own w base v l := h
  rcases h.2 with ⟨rfl, hn⟩ | ⟨g, cap, cur, rfl, hb, hg, hnc, hm, hs, ht⟩
  · exact .inl ⟨rfl, List.length_eq_zero_iff.mp hn⟩
  · refine .inr ⟨g, cap, rfl, hb, (Array.getElem?_eq_some_iff.1 hg).1, hnc, fun i hi => ?_⟩
    have hr : w.ownsRow base 5 1 (.slice (some ⟨g, 0, none⟩) l.length cap) l.length (l.map (Value.int .u8)) := h0
    rw [hr.cellAt i (by omega)]
    simp [hi]

theorem Own.bytes {w : World} {base B : Nat} {v : Value} {l : List Int} (h : Own w base v l) (hB : w.heap.size ≤ B) : ∃ a cap, v = .slice a l.length cap ∧ (a = none → cap = 0) ∧ Bytes w B a l.length l := by
  rcases h.shape with ⟨rfl, rfl⟩ | ⟨g, cap, rfl, hb, hg, hnc, hc⟩
  · exact ⟨none, 0, rfl, fun _ => rfl, Bytes.empty _ _ _⟩
  · exact ⟨some ⟨g, 0, none⟩, cap, rfl, fun h => (by cases h), rfl, .inr ⟨g, 0, rfl, by omega, fun i hi => by rw [Nat.zero_add]; exact hc i hi⟩⟩

theorem Own.kept {w w' : World} {base : Nat} {v : Value} {l : List Int} {row : Option Nat} (h : Own w base v l) (hg : w.grownBy w' row) (hne : v.ownBlock = none ∨ v.ownBlock ≠ row) : Own w' base v l :=
  World.ownsRow.kept h hg hne

theorem Own.later {w w' : World} {base B : Nat} {v : Value} {l : List Int} (h : Own w base v l) (hb : Below B w w') (hB : w.heap.size ≤ B) : Own w' base v l := by
  refine ⟨h.1, ?_⟩
  rcases h.2 with hn | ⟨g, cap, cur, rfl, hbg, hgg, rest⟩
  · exact .inl hn
  · exact .inr ⟨g, cap, cur, rfl, hbg, by rw [hb.block g (Nat.lt_of_lt_of_le (Array.getElem?_eq_some_iff.1 hgg).1 hB)]; exact hgg, rest⟩

theorem Own.lt {w : World} {base : Nat} {v : Value} {l : List Int} (h : Own w base v l) : ∀ k, v.ownBlock = some k → base ≤ k ∧ k < w.heap.size := World.ownsRow.lt h

theorem run_append_bytes {w : World} {base B : Nat} {v : Value} {l zs : List Int} (hown : Own w base v l) (ty : TypeId) (a : Option Addr) (m c : Nat) (hsrc : Bytes w B a m zs) (hnil : a = none → c = 0)
    (hsz : l.length + m ≤ 140737488355328) (hbase : base ≤ w.heap.size) :
    ∃ v' w', (Builtin.append_ #[22, 22] ty #[v, .slice a m c]).run Try.prog w = .ok v' w' ∧ Own w' base v' (l ++ zs) ∧ w.grownBy w' v.ownBlock := by
  obtain ⟨i, hi, hz0, hz1, hz2⟩ := info_parts Try.info5
  obtain ⟨hzn, hs⟩ := hsrc
  cases a with
  | none =>
    obtain rfl : c = 0 := hnil rfl
    have h0 : m = 0 := by
      rcases hs with h0 | ⟨b, off, h, _⟩
      · exact h0
      · cases h
    subst h0
    obtain rfl : zs = [] := List.length_eq_zero_iff.mp hzn
    refine ⟨v, w, run_append_owned_none (P := Try.prog) w base 22 ty 5 i 1 Try.underlying22 hi v l.length _ hown, by simpa using hown, ⟨rfl, rfl, rfl, Nat.le_refl _, fun _ _ _ => rfl⟩⟩
  | some ad =>
    obtain ⟨v', w', hrun, ho, hg, _⟩ := run_append_own (P := Try.prog) w base 22 ty 5 i (.int .u8 0) 1 1 Try.underlying22 hi hz0 hz1 hz2 rfl (by decide) v l.length _ hown ad m c (zs.map (Value.int .u8)) (by simp [hzn])
      (by
        intro j u hj
        have hjl : j < m := by
          have := (List.getElem?_eq_some_iff.1 hj).1
          simp at this; omega
        rcases hs with h0 | ⟨b, off, hab, _, hc⟩
        · omega
        · cases hab
          have ha : (⟨b, off, none⟩ : Addr).add j = ⟨b, off + j, none⟩ := by
            unfold Addr.add; split <;> simp_all
          rw [ha, hc j hjl]
          simp only [List.getElem?_map] at hj
          rw [← hj]
          simp [List.getD_eq_getElem?_getD, show j < zs.length by omega])
      (ints_oneCell _ _) (by unfold maxLen; omega) (by omega) hbase
    refine ⟨v', w', hrun, ?_, hg⟩
    unfold Own
    rw [List.length_append, List.map_append, hzn]
    exact ho

theorem wpList_append_bytes {w : World} {ops : Array Oper} {rest : List Oper} {o : Oper} {a : Act} {Q : Exit → Act → World → Prop} (hgd : o.guard = none) (s x : Operand)
    (ho : o.op = .call { callee := .builtin .append, args := #[s, x], argTypes := #[22, 22] }) (base : Nat) (v : Value) (l : List Int) (hs : a.eval s = v) (hown : Own w base v l)
    (ad : Option Addr) (m c : Nat) (zs : List Int) (hx : a.eval x = .slice ad m c) (B : Nat) (hsrc : Bytes w B ad m zs) (hnil : ad = none → c = 0)
    (hsz : l.length + m ≤ 140737488355328) (hbase : base ≤ w.heap.size)
    (h : ∀ v' w', Own w' base v' (l ++ zs) → w.grownBy w' v.ownBlock → wpList Try.prog ops Q rest (a.put o.dst v') w') : wpList Try.prog ops Q (o :: rest) a w := by
  refine wpList_plain hgd fun K hK => ?_
  obtain ⟨v', w', hrun, h1, h2⟩ := run_append_bytes hown o.type ad m c hsrc hnil hsz hbase
  unfold Oper.wp
  simp [execOp, ho, resolve, invoke, builtin, hs, hx, hrun, Result.andThen]
  exact hK _ _ (h v' w' h1 h2)

theorem wpList_make_room {w : World} {ops : Array Oper} {rest : List Oper} {o : Oper} {a : Act} {Q : Exit → Act → World → Prop}
    (hg : o.guard = none) (l c : Operand) (hop : o.op = Op.makeSlice 22 l c) (kl kc : IntKind) (C : Int) (n : Nat) (hl : a.eval l = .int kl 0) (hc : a.eval c = .int kc C)
    (hC : C = (n : Int)) (hn : n ≤ 140737488355328) (base : Nat) (hb : base ≤ w.heap.size)
    (hK : ∀ w', Own w' base (.slice (some ⟨w.heap.size, 0, none⟩) 0 n) [] → Below w.heap.size w w' → wpList Try.prog ops Q rest (a.put o.dst (.slice (some ⟨w.heap.size, 0, none⟩) 0 n)) w') :
    wpList Try.prog ops Q (o :: rest) a w := by
  obtain ⟨i, hi, hz0, hz1, hz2⟩ := info_parts Try.info5
  refine wpList_make_own w hg l c 22 hop base 5 i (.int .u8 0) 1 Try.underlying22 hi hz0 hz1 kl kc C n hl hc hC (by rw [hz2]; omega) (by unfold maxLen; omega) hb ?_
  intro w' h1 h2
  exact hK w' h1 ((Below.refl _ _).grown h2 (Nat.le_refl _) (fun k h => by cases h))

end Go.Proofs.Qxb6603067a
