/-
  APPEND ONTO A SLICE OF BYTES THAT THE CALL OWNS, AND WHERE THE RESULT LIES: in the old row, or in the newest block.
-/
import Derived.Test.Qxb6603067aKit
import Derived.Lib.AppendStr
namespace Go.Proofs.Qxb6603067a
open Go.RowKit

/-- a string's bytes as numbers -/
def sbytes (s : ByteArray) : List Int := s.data.toList.map fun b => (b.toNat : Int)

theorem sbytes_length (s : ByteArray) : (sbytes s).length = s.size := by simp [sbytes]

theorem strCells_eq (s : ByteArray) : Lib.strCells s = (sbytes s).map (Value.int .u8) := by simp [Lib.strCells, sbytes]

/-- Where the result of an append lies. -/
def Lies (w : World) (v v' : Value) : Prop := v'.ownBlock = v.ownBlock ∨ v'.ownBlock = some w.heap.size

theorem run_append_bytes_at {w : World} {base B : Nat} {v : Value} {l zs : List Int} (hown : Own w base v l) (ty : TypeId) (a : Option Addr) (m c : Nat) (hsrc : Bytes w B a m zs) (hnil : a = none → c = 0)
    (hsz : l.length + m ≤ 140737488355328) (hbase : base ≤ w.heap.size) :
    ∃ v' w', (Builtin.append_ #[22, 22] ty #[v, .slice a m c]).run Try.prog w = .ok v' w' ∧ Own w' base v' (l ++ zs) ∧ w.grownBy w' v.ownBlock ∧ Lies w v v' := by
  obtain ⟨v', w', hrun, h1, h2⟩ := run_append_bytes hown ty a m c hsrc hnil hsz hbase
  refine ⟨v', w', hrun, h1, h2, ?_⟩
  obtain ⟨i, hi, hz0, hz1, hz2⟩ := info_parts Try.info5
  obtain ⟨hzn, hs⟩ := hsrc
  cases a with
  | none =>
    obtain rfl : c = 0 := hnil rfl
    have h0 : m = 0 := by
      rcases hs with h0 | ⟨b, off, h, _⟩
      · exact h0
      · cases h
    subst h0
    rw [run_append_owned_none (P := Try.prog) w base 22 ty 5 i 1 Try.underlying22 hi v l.length _ hown] at hrun
    cases hrun
    exact .inl rfl
  | some ad =>
    have hnews : ∀ j u, (zs.map (Value.int .u8))[j]? = some u → w.cell? (ad.add j) = some u := by
      intro j u hj
      have hjl : j < m := by
        have := (List.getElem?_eq_some_iff.1 hj).1
        simp at this; omega
      rcases hs with h0 | ⟨b, off, hab, _, hc⟩
      · omega
      · cases hab
        have ha : (⟨b, off, none⟩ : Addr).add j = ⟨b, off + j, none⟩ := by
          unfold Addr.add; split <;> simp_all
        rw [ha, hc j hjl]
        simp only [List.getElem?_map] at hj
        rw [← hj]
        simp [List.getD_eq_getElem?_getD, show j < zs.length by omega]
    have hl : (zs.map (Value.int .u8)).length = m * i.size := by simp [hzn, hz1]
    rcases hown.2 with ⟨rfl, hn0⟩ | ⟨g, cap, cur, rfl, hbg, hg, hnc, hcm, hcs, htake⟩
    · by_cases hm : m = 0
      · subst hm
        have hz : zs = [] := List.length_eq_zero_iff.mp hzn
        subst hz
        have : (Builtin.append_ #[22, 22] ty #[.slice none 0 0, .slice (some ad) 0 c]).run Try.prog w = .ok (.slice none 0 0) w := by
          simp [Builtin.append_, run_underlying Try.underlying22, sizeOf, typeInfo, hi, Builtin.lenOf, Builtin.firstCells, loadCells, loadCellsFrom]
        rw [this] at hrun
        cases hrun
        exact .inl rfl
      · rw [run_append_nil (P := Try.prog) w 22 ty 5 i (.int .u8 0) Try.underlying22 hi hz0 ad m c _ hl hnews (by omega) (by omega) (by rw [hz2]; omega)] at hrun
        cases hrun
        exact .inr rfl
    · by_cases hroom : l.length + m ≤ cap
      · rw [run_append_room (P := Try.prog) w 22 ty 5 i Try.underlying22 hi g l.length cap cur hg ad m c _ hl hnews (ints_oneCell _ _) hroom (by rw [hz1, hl, hz1]; omega)] at hrun
        cases hrun
        exact .inl rfl
      · have holds : ∀ j u, (l.map (Value.int .u8))[j]? = some u → w.cell? ((⟨g, 0, none⟩ : Addr).add j) = some u := World.ownsRow.cells hown (g := g) rfl
        rw [run_append_grow (P := Try.prog) w 22 ty 5 i (.int .u8 0) Try.underlying22 hi hz0 ⟨g, 0, none⟩ l.length cap (l.map (Value.int .u8)) (by simp [hz1]) holds ad m c _ hl hnews (by omega) (by omega) (growslice_fits (by omega) (by rw [hz2]; omega))] at hrun
        cases hrun
        exact .inr rfl

theorem run_append_str_at {w : World} {base : Nat} {v : Value} {l : List Int} (hown : Own w base v l) (ty : TypeId) (s : ByteArray)
    (hsz : l.length + s.size ≤ 140737488355328) (hbase : base ≤ w.heap.size) :
    ∃ v' w', (Builtin.append_ #[22, 9] ty #[v, .string s]).run Try.prog w = .ok v' w' ∧ Own w' base v' (l ++ sbytes s) ∧ w.grownBy w' v.ownBlock ∧ Lies w v v' := by
  obtain ⟨i, hi, hz0, hz1, hz2⟩ := info_parts Try.info5
  obtain ⟨v', w', hrun, h1, h2, _⟩ := Lib.run_append_own_string (P := Try.prog) w base 22 9 ty 5 i Try.underlying22 Try.underlying9 hi hz0 hz1 hz2 v l.length _ hown s (by unfold maxLen; omega) (by omega) hbase
  refine ⟨v', w', hrun, ?_, h2, ?_⟩
  · unfold Own
    rw [List.length_append, List.map_append, sbytes_length, ← strCells_eq]
    exact h1
  · rcases hown.2 with ⟨rfl, hn0⟩ | ⟨g, cap, cur, rfl, hbg, hg, hnc, hcm, hcs, htake⟩
    · by_cases hm : s.size = 0
      · have : (Builtin.append_ #[22, 9] ty #[.slice none 0 0, .string s]).run Try.prog w = .ok (.slice none 0 0) w := by
          simp [Builtin.append_, run_underlying Try.underlying22, run_underlying Try.underlying9, sizeOf, typeInfo, hi, Builtin.lenOf, Builtin.firstCells, hm]
        rw [this] at hrun
        cases hrun
        exact .inl rfl
      · rw [run_append_nil_string (P := Try.prog) w 22 9 ty 5 i (.int .u8 0) Try.underlying22 Try.underlying9 hi hz0 s (by omega) (by omega) (by rw [hz2]; omega)] at hrun
        cases hrun
        exact .inr rfl
    · by_cases hroom : l.length + s.size ≤ cap
      · rw [Lib.run_append_room_string (P := Try.prog) w 22 9 ty 5 i Try.underlying22 Try.underlying9 hi hz1 g l.length cap cur hg s hroom (by omega)] at hrun
        cases hrun
        exact .inl rfl
      · have holds : ∀ j u, (l.map (Value.int .u8))[j]? = some u → w.cell? ((⟨g, 0, none⟩ : Addr).add j) = some u := World.ownsRow.cells hown (g := g) rfl
        rw [Lib.run_append_grow_string (P := Try.prog) w 22 9 ty 5 i (.int .u8 0) Try.underlying22 Try.underlying9 hi hz0 ⟨g, 0, none⟩ l.length cap (l.map (Value.int .u8)) (by simp [hz1]) holds s (by omega) (by omega) (growslice_fits (by omega) (by rw [hz2]; omega))] at hrun
        cases hrun
        exact .inr rfl

theorem Own.form {w : World} {base : Nat} {v : Value} {l : List Int} (h : Own w base v l) : ∃ a c, v = .slice a l.length c := by
  rcases h.shape with ⟨rfl, rfl⟩ | ⟨g, cap, rfl, _⟩
  · exact ⟨none, 0, rfl⟩
  · exact ⟨_, _, rfl⟩

/-- 'append(x, src...)' in the walk: the result in a slice's form, and where it lies -/
theorem wpList_app_bytes {w : World} {ops : Array Oper} {rest : List Oper} {o : Oper} {a : Act} {Q : Exit → Act → World → Prop} (hgd : o.guard = none) (s x : Operand)
    (ho : o.op = .call { callee := .builtin .append, args := #[s, x], argTypes := #[22, 22] }) (base : Nat) (v : Value) (l : List Int) (hs : a.eval s = v) (hown : Own w base v l)
    (ad : Option Addr) (m c : Nat) (zs : List Int) (hx : a.eval x = .slice ad m c) (B : Nat) (hsrc : Bytes w B ad m zs) (hnil : ad = none → c = 0)
    (hsz : l.length + m ≤ 140737488355328) (hbase : base ≤ w.heap.size)
    (h : ∀ a' c' w', Own w' base (.slice a' (l.length + m) c') (l ++ zs) → w.grownBy w' v.ownBlock → Lies w v (.slice a' (l.length + m) c') → wpList Try.prog ops Q rest (a.put o.dst (.slice a' (l.length + m) c')) w') :
    wpList Try.prog ops Q (o :: rest) a w := by
  refine wpList_plain hgd fun K hK => ?_
  obtain ⟨v', w', hrun, h1, h2, h3⟩ := run_append_bytes_at hown o.type ad m c hsrc hnil hsz hbase
  obtain ⟨a', c', rfl⟩ := h1.form
  have e : (l ++ zs).length = l.length + m := by rw [List.length_append, hsrc.1]
  rw [e] at h1 h3 hrun
  unfold Oper.wp
  simp [execOp, ho, resolve, invoke, builtin, hs, hx, hrun, Result.andThen]
  exact hK _ _ (h a' c' w' h1 h2 h3)

theorem wpList_app_str {w : World} {ops : Array Oper} {rest : List Oper} {o : Oper} {a : Act} {Q : Exit → Act → World → Prop} (hgd : o.guard = none) (s x : Operand)
    (ho : o.op = .call { callee := .builtin .append, args := #[s, x], argTypes := #[22, 9] }) (base : Nat) (v : Value) (l : List Int) (hs : a.eval s = v) (hown : Own w base v l)
    (t : ByteArray) (hx : a.eval x = .string t) (hsz : l.length + t.size ≤ 140737488355328) (hbase : base ≤ w.heap.size)
    (h : ∀ a' c' w', Own w' base (.slice a' (l.length + t.size) c') (l ++ sbytes t) → w.grownBy w' v.ownBlock → Lies w v (.slice a' (l.length + t.size) c') → wpList Try.prog ops Q rest (a.put o.dst (.slice a' (l.length + t.size) c')) w') :
    wpList Try.prog ops Q (o :: rest) a w := by
  refine wpList_plain hgd fun K hK => ?_
  obtain ⟨v', w', hrun, h1, h2, h3⟩ := run_append_str_at hown o.type t hsz hbase
  obtain ⟨a', c', rfl⟩ := h1.form
  have e : (l ++ sbytes t).length = l.length + t.size := by rw [List.length_append, sbytes_length]
  rw [e] at h1 h3 hrun
  unfold Oper.wp
  simp [execOp, ho, resolve, invoke, builtin, hs, hx, hrun, Result.andThen]
  exact hK _ _ (h a' c' w' h1 h2 h3)

/-- the same at a step of a region that draws its order -/
theorem step_app_bytes {w : World} {ops : Array Oper} {o : Oper} {a : Act} {K : Act → World → Prop} {Q : Exit → Act → World → Prop} {E : Prop} (hgd : o.guard = none) (s x : Operand)
    (ho : o.op = .call { callee := .builtin .append, args := #[s, x], argTypes := #[22, 22] }) (base : Nat) (v : Value) (l : List Int) (hs : a.eval s = v) (hown : Own w base v l)
    (ad : Option Addr) (m c : Nat) (zs : List Int) (hx : a.eval x = .slice ad m c) (B : Nat) (hsrc : Bytes w B ad m zs) (hnil : ad = none → c = 0)
    (hsz : l.length + m ≤ 140737488355328) (hbase : base ≤ w.heap.size)
    (h : ∀ a' c' w', Own w' base (.slice a' (l.length + m) c') (l ++ zs) → w.grownBy w' v.ownBlock → Lies w v (.slice a' (l.length + m) c') → K (a.put o.dst (.slice a' (l.length + m) c')) w') :
    if Region.wanted o (yielded ops a.tmps) = true then Oper.wp Try.prog o a w K Q else E := by
  have hw : Region.wanted o (yielded ops a.tmps) = true := by simp [Region.wanted, hgd]
  rw [if_pos hw]
  obtain ⟨v', w', hrun, h1, h2, h3⟩ := run_append_bytes_at hown o.type ad m c hsrc hnil hsz hbase
  obtain ⟨a', c', rfl⟩ := h1.form
  have e : (l ++ zs).length = l.length + m := by rw [List.length_append, hsrc.1]
  rw [e] at h1 h3 hrun
  unfold Oper.wp
  simp [execOp, ho, resolve, invoke, builtin, hs, hx, hrun, Result.andThen]
  exact h a' c' w' h1 h2 h3

theorem step_app_str {w : World} {ops : Array Oper} {o : Oper} {a : Act} {K : Act → World → Prop} {Q : Exit → Act → World → Prop} {E : Prop} (hgd : o.guard = none) (s x : Operand)
    (ho : o.op = .call { callee := .builtin .append, args := #[s, x], argTypes := #[22, 9] }) (base : Nat) (v : Value) (l : List Int) (hs : a.eval s = v) (hown : Own w base v l)
    (t : ByteArray) (hx : a.eval x = .string t) (hsz : l.length + t.size ≤ 140737488355328) (hbase : base ≤ w.heap.size)
    (h : ∀ a' c' w', Own w' base (.slice a' (l.length + t.size) c') (l ++ sbytes t) → w.grownBy w' v.ownBlock → Lies w v (.slice a' (l.length + t.size) c') → K (a.put o.dst (.slice a' (l.length + t.size) c')) w') :
    if Region.wanted o (yielded ops a.tmps) = true then Oper.wp Try.prog o a w K Q else E := by
  have hw : Region.wanted o (yielded ops a.tmps) = true := by simp [Region.wanted, hgd]
  rw [if_pos hw]
  obtain ⟨v', w', hrun, h1, h2, h3⟩ := run_append_str_at hown o.type t hsz hbase
  obtain ⟨a', c', rfl⟩ := h1.form
  have e : (l ++ sbytes t).length = l.length + t.size := by rw [List.length_append, sbytes_length]
  rw [e] at h1 h3 hrun
  unfold Oper.wp
  simp [execOp, ho, resolve, invoke, builtin, hs, hx, hrun, Result.andThen]
  exact h a' c' w' h1 h2 h3

end Go.Proofs.Qxb6603067a
