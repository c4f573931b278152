/-
  THE WALK of zzBytes (5, 14): it says yes or no, and writes nothing. The frames (516 slots) stay shut: a state of the few slots that bear something.
-/
import Derived.Test.Qxb6603644aStrict
import Derived.Test.Qxb6603644aBytes
namespace Go.Proofs.Qxb6603644a
open Go.RowKit Go.Shelf

theorem wpl {P : Program} {ops : Array Oper} {Q : Exit → Act → World → Prop} {a : Act} {w : World} {rest : List Oper} {o : Oper} {v : Value} (hg : o.guard = none) (hr : (execOp a.eval o).run P w = .ok (.value v) w) (h : wpList P ops Q rest (a.put o.dst v) w) : wpList P ops Q (o :: rest) a w :=
  wpList_plain hg fun K hK => by unfold Oper.wp; rw [hr]; exact hK _ _ h
section
variable {ev : Operand → Value} {d : Option Tmp} {y : TypeId} {p : String} {f : Array Edge} {g : Option (Nat × Bool)} {w : World}
theorem ex_move (x : Operand) : (execOp ev { dst := d, op := .move x, type := y, pos := p, after := f, guard := g }).run Try.prog w = .ok (.value (ev x)) w := by
  simp [execOp]
theorem ex_assign (x : Operand) : (execOp ev { dst := d, op := .assign x, type := y, pos := p, after := f, guard := g }).run Try.prog w = .ok (.value (ev x)) w := by
  simp [execOp]
theorem ex_len_slice (x : Operand) (ao : Option Addr) (n c : Nat) (h : ev x = .slice ao n c) : (execOp ev { dst := d, op := .call { callee := .builtin .len, args := #[x], argTypes := #[22] }, type := y, pos := p, after := f, guard := g }).run Try.prog w = .ok (.value (.int .i64 (n : Nat))) w := by
  simp [h, go_sem]
theorem ex_len_str (x : Operand) (s : ByteArray) (h : ev x = .string s) : (execOp ev { dst := d, op := .call { callee := .builtin .len, args := #[x], argTypes := #[9] }, type := y, pos := p, after := f, guard := g }).run Try.prog w = .ok (.value (.int .i64 (s.size : Nat))) w := by
  simp [h, go_sem]
theorem ex_gtr (x : Operand) (z : Int) (h : ev x = .int .i64 z) (hk : ev (.const (.int .i64 1048576)) = .int .i64 1048576) : (execOp ev { dst := d, op := .binOp .gtr 3 x (.const (.int .i64 1048576)) 3, type := y, pos := p, after := f, guard := g }).run Try.prog w = .ok (.value (.bool (decide (1048576 < z)))) w := by
  simp [execOp, h, hk, go_sem]
theorem ex_lss (x x' : Operand) (z z' : Int) (h : ev x = .int .i64 z) (h' : ev x' = .int .i64 z') : (execOp ev { dst := d, op := .binOp .lss 3 x x' 3, type := y, pos := p, after := f, guard := g }).run Try.prog w = .ok (.value (.bool (decide (z < z')))) w := by
  simp [execOp, h, h', go_sem]
theorem ex_add (x x' : Operand) (m n : Nat) (h : ev x = .int .i64 m) (h' : ev x' = .int .i64 n) (hb : m + n ≤ 9007199254740992) : (execOp ev { dst := d, op := .binOp .add 3 x x' 3, type := y, pos := p, after := f, guard := g }).run Try.prog w = .ok (.value (.int .i64 ((m + n : Nat) : Int))) w := by
  have hw : IntKind.i64.wrap ((m : Int) + n) = (m : Int) + n := by simp [IntKind.wrap, IntKind.bits, IntKind.signed]; omega
  simp [execOp, h, h', go_sem, hw]
theorem ex_index (x x' : Operand) (b off n c i : Nat) (h : ev x = .slice (some ⟨b, off, none⟩) n c) (h' : ev x' = .int .i64 (i : Nat)) (hi : i < n) : (execOp ev { dst := d, op := .indexAddr 22 x x', type := y, pos := p, after := f, guard := g }).run Try.prog w = .ok (.value (.pointer (some ⟨b, off + i * 21, none⟩))) w := by
  simp [execOp, h, h', go_sem, hi]
theorem ex_field (x : Operand) (c : Nat) (b o : Nat) (h : ev x = .pointer (some ⟨b, o, none⟩)) (hc : c < 17) : (execOp ev { dst := d, op := .fieldAddr 41 x c, type := y, pos := p, after := f, guard := g }).run Try.prog w = .ok (.value (.pointer (some ⟨b, o + c, none⟩))) w := by
  rcases (by omega : c = 0 ∨ c = 1 ∨ c = 2 ∨ c = 3 ∨ c = 4 ∨ c = 5 ∨ c = 6 ∨ c = 7 ∨ c = 8 ∨ c = 9 ∨ c = 10 ∨ c = 11 ∨ c = 12 ∨ c = 13 ∨ c = 14 ∨ c = 15 ∨ c = 16) with rfl | rfl | rfl | rfl | rfl | rfl | rfl | rfl | rfl | rfl | rfl | rfl | rfl | rfl | rfl | rfl | rfl
  all_goals simp [execOp, h, go_sem]
theorem ex_load (x : Operand) (ad : Addr) (s : ByteArray) (h : ev x = .pointer (some ad)) (hc : w.cell? ad = some (.string s)) : (execOp ev { dst := d, op := .load 9 x, type := y, pos := p, after := f, guard := g }).run Try.prog w = .ok (.value (.string s)) w := by
  simp [execOp, h, go_sem, hc]
end

theorem ev_same {a : Act} {d : Nat} {v : Value} (h : d < a.tmps.size) : (a.put (some d) v).eval (.tmp d) = v := by
  simp [Act.put, Act.eval, h]
theorem ev_other {a : Act} {d t : Nat} {v : Value} (h : d ≠ t) : (a.put (some d) v).eval (.tmp t) = a.eval (.tmp t) := by
  simp [Act.put, Act.eval, Array.getD_eq_getD_getElem?, h]

/-- the slots that bear something: the two rows, the sum, the two counters -/
structure St (S0 S1 V7 v8 v9 : Value) (a : Act) : Prop where
  sz : a.tmps.size = 516
  df : a.defers = []
  t0 : a.eval (.tmp 0) = S0
  t1 : a.eval (.tmp 1) = S1
  t7 : a.eval (.tmp 7) = V7
  t8 : a.eval (.tmp 8) = v8
  t9 : a.eval (.tmp 9) = v9
theorem put_size {a : Act} {d : Option Tmp} {v : Value} : (a.put d v).tmps.size = a.tmps.size := by
  cases d <;> simp [Act.put]
theorem put_defers {a : Act} {d : Option Tmp} {v : Value} : (a.put d v).defers = a.defers := by
  cases d <;> rfl
section
variable {S0 S1 V7 v8 v9 : Value} {T : Nat} {a : Act} {w : World} {Q : Exit → Act → World → Prop}
theorem St.put (h : St S0 S1 V7 v8 v9 a) {d : Nat} (hd : 10 ≤ d) (v : Value) : St S0 S1 V7 v8 v9 (a.put (some d) v) :=
  ⟨put_size.trans h.sz, put_defers.trans h.df, (ev_other (by omega)).trans h.t0, (ev_other (by omega)).trans h.t1, (ev_other (by omega)).trans h.t7, (ev_other (by omega)).trans h.t8, (ev_other (by omega)).trans h.t9⟩
theorem St.put7 (h : St S0 S1 V7 v8 v9 a) (v : Value) : St S0 S1 v v8 v9 (a.put (some 7) v) :=
  ⟨put_size.trans h.sz, put_defers.trans h.df, (ev_other (by decide)).trans h.t0, (ev_other (by decide)).trans h.t1, ev_same (by rw [h.sz]; decide), (ev_other (by decide)).trans h.t8, (ev_other (by decide)).trans h.t9⟩
theorem St.put8 (h : St S0 S1 V7 v8 v9 a) (v : Value) : St S0 S1 V7 v v9 (a.put (some 8) v) :=
  ⟨put_size.trans h.sz, put_defers.trans h.df, (ev_other (by decide)).trans h.t0, (ev_other (by decide)).trans h.t1, (ev_other (by decide)).trans h.t7, ev_same (by rw [h.sz]; decide), (ev_other (by decide)).trans h.t9⟩
theorem St.put9 (h : St S0 S1 V7 v8 v9 a) (v : Value) : St S0 S1 V7 v8 v (a.put (some 9) v) :=
  ⟨put_size.trans h.sz, put_defers.trans h.df, (ev_other (by decide)).trans h.t0, (ev_other (by decide)).trans h.t1, (ev_other (by decide)).trans h.t7, (ev_other (by decide)).trans h.t8, ev_same (by rw [h.sz]; decide)⟩
theorem St.put6 (h : St S0 S1 V7 v8 v9 a) (v : Value) : St S0 S1 V7 v8 v9 (a.put (some 6) v) :=
  ⟨put_size.trans h.sz, put_defers.trans h.df, (ev_other (by decide)).trans h.t0, (ev_other (by decide)).trans h.t1, (ev_other (by decide)).trans h.t7, (ev_other (by decide)).trans h.t8, (ev_other (by decide)).trans h.t9⟩

theorem wpls {P : Program} {ops : Array Oper} {rest : List Oper} {o : Oper} {v : Value} {d : Nat} (h : St S0 S1 V7 v8 v9 a) (hg : o.guard = none) (hd : o.dst = some d) (h10 : 10 ≤ d) (hr : (execOp a.eval o).run P w = .ok (.value v) w) (hk : St S0 S1 V7 v8 v9 (a.put (some d) v) → wpList P ops Q rest (a.put (some d) v) w) : wpList P ops Q (o :: rest) a w :=
  wpl hg hr (by rw [hd]; exact hk (h.put h10 v))
/-- a return is always well -/
def Rets (Q : Exit → Act → World → Prop) (w : World) : Prop := ∀ (a : Act) (b : Bool), a.tmps.size = 516 → a.defers = [] → a.eval (.tmp 6) = .bool b → Q .ret a w
theorem Rets.then {K : Act → World → Prop} (h : Rets Q w) : Rets (Exit.then K Q) w := h
theorem Rets.inBlock {id : Nat} (h : Rets Q w) : Rets (Exit.inBlock id Q) w := h

theorem exit_out {K1 K2 : Act → World → Prop} {id : Nat} (h : Q .normal a w) : Exit.then K1 (Exit.then K2 (Exit.inBlock id Q)) (.exit id) a w := by
  simp only [Exit.then, Exit.inBlock, if_true]
  exact h
theorem set_six {i : Nat} {x : Value} {y : TypeId} {p : String} {f : Array Edge} (h : St S0 S1 V7 v8 v9 a) (hn : ∀ a', St S0 S1 V7 v8 v9 a' → a'.eval (.tmp 6) = x → Q .normal a' w) : (Code.region i #[{ dst := some 6, op := .assign (.const x), type := y, pos := p, after := f, guard := none }] false).wp Try.prog Q a w :=
  wp_region_lit (wpl rfl (ex_assign _) (wpList_nil (hn _ (h.put6 _) (ev_same (by rw [h.sz]; decide)))))
theorem set_seven {i : Nat} {x : Value} {y : TypeId} {p : String} {f : Array Edge} (h : St S0 S1 V7 v8 v9 a) (hn : ∀ a', St S0 S1 x v8 v9 a' → Q .normal a' w) : (Code.region i #[{ dst := some 7, op := .assign (.const x), type := y, pos := p, after := f, guard := none }] false).wp Try.prog Q a w :=
  wp_region_lit (wpl rfl (ex_assign _) (wpList_nil (hn _ (h.put7 _))))
theorem set_eight {i : Nat} {x : Value} {y : TypeId} {p : String} {f : Array Edge} (h : St S0 S1 V7 v8 v9 a) (hn : ∀ a', St S0 S1 V7 x v9 a' → Q .normal a' w) : (Code.region i #[{ dst := some 8, op := .assign (.const x), type := y, pos := p, after := f, guard := none }] false).wp Try.prog Q a w :=
  wp_region_lit (wpl rfl (ex_assign _) (wpList_nil (hn _ (h.put8 _))))
theorem set_nine {i : Nat} {x : Value} {y : TypeId} {p : String} {f : Array Edge} (h : St S0 S1 V7 v8 v9 a) (hn : ∀ a', St S0 S1 V7 v8 x a' → Q .normal a' w) : (Code.region i #[{ dst := some 9, op := .assign (.const x), type := y, pos := p, after := f, guard := none }] false).wp Try.prog Q a w :=
  wp_region_lit (wpl rfl (ex_assign _) (wpList_nil (hn _ (h.put9 _))))
theorem no_way {i : Nat} {y : TypeId} {p : String} {f : Array Edge} (h : St S0 S1 V7 v8 v9 a) (hr : Rets Q w) : ((Code.region i #[{ dst := some 6, op := .assign (.const (.bool false)), type := y, pos := p, after := f, guard := none }] false).seq Code.ret).wp Try.prog Q a w :=
  wp_seq (set_six h fun a' h' e => wp_ret (hr a' false h'.sz h'.df e))

/-- 'if .. > 1<<20 { return false }' behind its region -/
theorem if_no {c : Nat} {i : Nat} {z : Nat} {y : TypeId} {p : String} {f : Array Edge} (h : St S0 S1 V7 v8 v9 a) (hc : a.eval (.tmp c) = .bool (decide ((1048576 : Int) < (z : Nat)))) (hr : Rets Q w) (hn : z ≤ 1048576 → Q .normal a w) :
    (Code.cond (.tmp c) ((Code.region i #[{ dst := some 6, op := .assign (.const (.bool false)), type := y, pos := p, after := f, guard := none }] false).seq Code.ret) Code.skip).wp Try.prog Q a w := by
  refine wp_cond_split hc (fun _ => no_way h hr) (fun e => wp_skip (hn ?_))
  have := of_decide_eq_false e
  omega

/-- 'if len(row[i].field) > 1<<20 { return false }' -/
theorem fld_test {sl iv s c : Nat} {i i' : Nat} {b off n cap q : Nat} {tx : ByteArray} {y1 y2 y3 y4 y5 y6 y7 y8 : TypeId} {p1 p2 p3 p4 p5 p6 p7 p8 : String} {f1 f2 f3 f4 f5 f6 f7 f8 : Array Edge}
    (h : St S0 S1 V7 v8 v9 a) (hsl : a.eval (.tmp sl) = .slice (some ⟨b, off, none⟩) n cap) (hiv : a.eval (.tmp iv) = .int .i64 (q : Nat)) (hs : 10 ≤ s ∧ s + 6 < 516) (h2 : iv < 10) (hq : q < n) (hc17 : c < 17) (hcell : w.cell? ⟨b, off + q * 21 + c, none⟩ = some (.string tx))
    (hr : Rets Q w) (hn : ∀ a', St S0 S1 V7 v8 v9 a' → tx.size ≤ 1048576 → Q .normal a' w) :
    ((Code.region i #[
      { dst := some s, op := .move (.tmp sl), type := y1, pos := p1, after := f1, guard := none },
      { dst := some (s + 1), op := .move (.tmp iv), type := y2, pos := p2, after := f2, guard := none },
      { dst := some (s + 2), op := .indexAddr 22 (.tmp s) (.tmp (s + 1)), type := y3, pos := p3, after := f3, guard := none },
      { dst := some (s + 3), op := .fieldAddr 41 (.tmp (s + 2)) c, type := y4, pos := p4, after := f4, guard := none },
      { dst := some (s + 4), op := .load 9 (.tmp (s + 3)), type := y5, pos := p5, after := f5, guard := none },
      { dst := some (s + 5), op := .call { callee := .builtin .len, args := #[.tmp (s + 4)], argTypes := #[9] }, type := y6, pos := p6, after := f6, guard := none },
      { dst := some (s + 6), op := .binOp .gtr 3 (.tmp (s + 5)) (.const (.int .i64 1048576)) 3, type := y7, pos := p7, after := f7, guard := none }] false).seq
      (Code.cond (.tmp (s + 6)) ((Code.region i' #[{ dst := some 6, op := .assign (.const (.bool false)), type := y8, pos := p8, after := f8, guard := none }] false).seq Code.ret) Code.skip)).wp Try.prog Q a w := by
  have hsz := h.sz
  have h' := h
  refine wp_seq (wp_region_lit ?_)
  refine wpls h' rfl rfl (by omega) (ex_move _) fun h' => ?_
  refine wpls h' rfl rfl (by omega) (ex_move _) fun h' => ?_
  refine wpls h' rfl rfl (by omega) (ex_index _ _ b off n cap q ?_ ?_ hq) fun h' => ?_
  · simp (disch := (first | omega | (simp only [put_size]; omega))) only [ev_other, ev_same, hsl]
  · simp (disch := (first | omega | (simp only [put_size]; omega))) only [ev_other, ev_same, hiv]
  refine wpls h' rfl rfl (by omega) (ex_field _ c b (off + q * 21) (ev_same (by simp only [put_size]; omega)) hc17) fun h' => ?_
  refine wpls h' rfl rfl (by omega) (ex_load _ _ tx (ev_same (by simp only [put_size]; omega)) hcell) fun h' => ?_
  refine wpls h' rfl rfl (by omega) (ex_len_str _ tx (ev_same (by simp only [put_size]; omega))) fun h' => ?_
  refine wpls h' rfl rfl (by omega) (ex_gtr _ _ (ev_same (by simp only [put_size]; omega)) rfl) fun h' => ?_
  refine wpList_nil ?_
  exact if_no (z := tx.size) h' (ev_same (by simp only [put_size]; omega)) hr (fun hz => hn _ h' hz)

/-- 'zzn += len(row[i].field)' -/
theorem fld_add {sl iv s c : Nat} {i : Nat} {b off n cap q : Nat} {tx : ByteArray} {y1 y2 y3 y4 y5 y6 y7 y8 y9 : TypeId} {p1 p2 p3 p4 p5 p6 p7 p8 p9 : String} {f1 f2 f3 f4 f5 f6 f7 f8 f9 : Array Edge}
    (h : St S0 S1 (.int .i64 (T : Nat)) v8 v9 a) (hsl : a.eval (.tmp sl) = .slice (some ⟨b, off, none⟩) n cap) (hiv : a.eval (.tmp iv) = .int .i64 (q : Nat)) (hs : 10 ≤ s ∧ s + 7 < 516) (h1 : sl < 10) (h2 : iv < 10) (hq : q < n) (hc17 : c < 17) (hcell : w.cell? ⟨b, off + q * 21 + c, none⟩ = some (.string tx)) (hb : T + tx.size ≤ 9007199254740992)
    (hn : ∀ a', St S0 S1 (.int .i64 ((T + tx.size : Nat) : Int)) v8 v9 a' → Q .normal a' w) :
    (Code.region i #[
      { dst := some s, op := .move (.tmp 7), type := y1, pos := p1, after := f1, guard := none },
      { dst := some (s + 1), op := .move (.tmp sl), type := y2, pos := p2, after := f2, guard := none },
      { dst := some (s + 2), op := .move (.tmp iv), type := y3, pos := p3, after := f3, guard := none },
      { dst := some (s + 3), op := .indexAddr 22 (.tmp (s + 1)) (.tmp (s + 2)), type := y4, pos := p4, after := f4, guard := none },
      { dst := some (s + 4), op := .fieldAddr 41 (.tmp (s + 3)) c, type := y5, pos := p5, after := f5, guard := none },
      { dst := some (s + 5), op := .load 9 (.tmp (s + 4)), type := y6, pos := p6, after := f6, guard := none },
      { dst := some (s + 6), op := .call { callee := .builtin .len, args := #[.tmp (s + 5)], argTypes := #[9] }, type := y7, pos := p7, after := f7, guard := none },
      { dst := some (s + 7), op := .binOp .add 3 (.tmp s) (.tmp (s + 6)) 3, type := y8, pos := p8, after := f8, guard := none },
      { dst := some 7, op := .assign (.tmp (s + 7)), type := y9, pos := p9, after := f9, guard := none }] false).wp Try.prog Q a w := by
  have hsz := h.sz
  have h' := h
  refine wp_region_lit ?_
  refine wpls h' rfl rfl (by omega) (ex_move _) fun h' => ?_
  refine wpls h' rfl rfl (by omega) (ex_move _) fun h' => ?_
  refine wpls h' rfl rfl (by omega) (ex_move _) fun h' => ?_
  refine wpls h' rfl rfl (by omega) (ex_index _ _ b off n cap q ?_ ?_ hq) fun h' => ?_
  · simp (disch := (first | omega | (simp only [put_size]; omega))) only [ev_other, ev_same, hsl]
  · simp (disch := (first | omega | (simp only [put_size]; omega))) only [ev_other, ev_same, hiv]
  refine wpls h' rfl rfl (by omega) (ex_field _ c b (off + q * 21) (ev_same (by simp only [put_size]; omega)) hc17) fun h' => ?_
  refine wpls h' rfl rfl (by omega) (ex_load _ _ tx (ev_same (by simp only [put_size]; omega)) hcell) fun h' => ?_
  refine wpls h' rfl rfl (by omega) (ex_len_str _ tx (ev_same (by simp only [put_size]; omega))) fun h' => ?_
  refine wpls h' rfl rfl (by omega) (ex_add _ _ T tx.size ?_ (ev_same (by simp only [put_size]; omega)) hb) fun h' => ?_
  · simp (disch := (first | omega | (simp only [put_size]; omega))) only [ev_other, ev_same, h.t7]
  refine wpl rfl (ex_assign _) ?_
  refine wpList_nil ?_
  rw [ev_same (by simp only [put_size]; omega)]
  exact hn _ (h'.put7 _)

/-- 'if zzn > 1<<20 { return false }' -/
theorem sum_test {s : Nat} {i i' : Nat} {y1 y2 y8 : TypeId} {p1 p2 p8 : String} {f1 f2 f8 : Array Edge} (h : St S0 S1 (.int .i64 (T : Nat)) v8 v9 a) (hs : 10 ≤ s ∧ s + 1 < 516) (hr : Rets Q w) (hn : ∀ a', St S0 S1 (.int .i64 (T : Nat)) v8 v9 a' → T ≤ 1048576 → Q .normal a' w) :
    ((Code.region i #[
      { dst := some s, op := .move (.tmp 7), type := y1, pos := p1, after := f1, guard := none },
      { dst := some (s + 1), op := .binOp .gtr 3 (.tmp s) (.const (.int .i64 1048576)) 3, type := y2, pos := p2, after := f2, guard := none }] false).seq
      (Code.cond (.tmp (s + 1)) ((Code.region i' #[{ dst := some 6, op := .assign (.const (.bool false)), type := y8, pos := p8, after := f8, guard := none }] false).seq Code.ret) Code.skip)).wp Try.prog Q a w := by
  have hsz := h.sz
  have h' := h
  refine wp_seq (wp_region_lit ?_)
  refine wpls h' rfl rfl (by omega) (ex_move _) fun h' => ?_
  refine wpls h' rfl rfl (by omega) (ex_gtr _ (T : Nat) ((ev_same (by omega)).trans h.t7) rfl) fun h' => ?_
  refine wpList_nil ?_
  exact if_no (z := T) h' (ev_same (by simp only [put_size]; omega)) hr (fun hz => hn _ h' hz)

/-- 'if len(row) > 1<<20 { return false }' -/
theorem row_test {sl s : Nat} {i i' : Nat} {ao : Option Addr} {n cap : Nat} {y1 y2 y3 y8 : TypeId} {p1 p2 p3 p8 : String} {f1 f2 f3 f8 : Array Edge} (h : St S0 S1 V7 v8 v9 a) (hsl : a.eval (.tmp sl) = .slice ao n cap) (hs : 10 ≤ s ∧ s + 2 < 516) (hr : Rets Q w) (hn : ∀ a', St S0 S1 V7 v8 v9 a' → n ≤ 1048576 → Q .normal a' w) :
    ((Code.region i #[
      { dst := some s, op := .move (.tmp sl), type := y1, pos := p1, after := f1, guard := none },
      { dst := some (s + 1), op := .call { callee := .builtin .len, args := #[.tmp s], argTypes := #[22] }, type := y2, pos := p2, after := f2, guard := none },
      { dst := some (s + 2), op := .binOp .gtr 3 (.tmp (s + 1)) (.const (.int .i64 1048576)) 3, type := y3, pos := p3, after := f3, guard := none }] false).seq
      (Code.cond (.tmp (s + 2)) ((Code.region i' #[{ dst := some 6, op := .assign (.const (.bool false)), type := y8, pos := p8, after := f8, guard := none }] false).seq Code.ret) Code.skip)).wp Try.prog Q a w := by
  have hsz := h.sz
  have h' := h
  refine wp_seq (wp_region_lit ?_)
  refine wpls h' rfl rfl (by omega) (ex_move _) fun h' => ?_
  refine wpls h' rfl rfl (by omega) (ex_len_slice _ ao n cap ((ev_same (by omega)).trans hsl)) fun h' => ?_
  refine wpls h' rfl rfl (by omega) (ex_gtr _ (n : Nat) (ev_same (by simp only [put_size]; omega)) rfl) fun h' => ?_
  refine wpList_nil ?_
  exact if_no (z := n) h' (ev_same (by simp only [put_size]; omega)) hr (fun hz => hn _ h' hz)

/-- 'zzn += len(row)' -/
theorem row_add {sl s : Nat} {i : Nat} {ao : Option Addr} {n cap : Nat} {y1 y2 y3 y4 y5 : TypeId} {p1 p2 p3 p4 p5 : String} {f1 f2 f3 f4 f5 : Array Edge} (h : St S0 S1 (.int .i64 (T : Nat)) v8 v9 a) (hsl : a.eval (.tmp sl) = .slice ao n cap) (hs : 10 ≤ s ∧ s + 3 < 516) (h1 : sl < 10) (hb : T + n ≤ 9007199254740992) (hn : ∀ a', St S0 S1 (.int .i64 ((T + n : Nat) : Int)) v8 v9 a' → Q .normal a' w) :
    (Code.region i #[
      { dst := some s, op := .move (.tmp 7), type := y1, pos := p1, after := f1, guard := none },
      { dst := some (s + 1), op := .move (.tmp sl), type := y2, pos := p2, after := f2, guard := none },
      { dst := some (s + 2), op := .call { callee := .builtin .len, args := #[.tmp (s + 1)], argTypes := #[22] }, type := y3, pos := p3, after := f3, guard := none },
      { dst := some (s + 3), op := .binOp .add 3 (.tmp s) (.tmp (s + 2)) 3, type := y4, pos := p4, after := f4, guard := none },
      { dst := some 7, op := .assign (.tmp (s + 3)), type := y5, pos := p5, after := f5, guard := none }] false).wp Try.prog Q a w := by
  have hsz := h.sz
  have h' := h
  refine wp_region_lit ?_
  refine wpls h' rfl rfl (by omega) (ex_move _) fun h' => ?_
  refine wpls h' rfl rfl (by omega) (ex_move _) fun h' => ?_
  refine wpls h' rfl rfl (by omega) (ex_len_slice _ ao n cap ?_) fun h' => ?_
  · simp (disch := (first | omega | (simp only [put_size]; omega))) only [ev_other, ev_same, hsl]
  refine wpls h' rfl rfl (by omega) (ex_add _ _ T n ?_ (ev_same (by simp only [put_size]; omega)) hb) fun h' => ?_
  · simp (disch := (first | omega | (simp only [put_size]; omega))) only [ev_other, ev_same, h.t7]
  refine wpl rfl (ex_assign _) ?_
  refine wpList_nil ?_
  rw [ev_same (by simp only [put_size]; omega)]
  exact hn _ (h'.put7 _)

/-- a loop's head -/
theorem head_test {sl iv s : Nat} {i e : Nat} {ao : Option Addr} {n cap q : Nat} {y1 y2 y3 y4 : TypeId} {p1 p2 p3 p4 : String} {f1 f2 f3 f4 : Array Edge} (h : St S0 S1 V7 v8 v9 a) (hsl : a.eval (.tmp sl) = .slice ao n cap) (hiv : a.eval (.tmp iv) = .int .i64 (q : Nat)) (hs : 10 ≤ s ∧ s + 3 < 516) (h1 : sl < 10) (hn : ∀ a', St S0 S1 V7 v8 v9 a' → q < n → Q .normal a' w) (hx : ∀ a', St S0 S1 V7 v8 v9 a' → ¬ q < n → Q (.exit e) a' w) :
    ((Code.region i #[
      { dst := some s, op := .move (.tmp iv), type := y1, pos := p1, after := f1, guard := none },
      { dst := some (s + 1), op := .move (.tmp sl), type := y2, pos := p2, after := f2, guard := none },
      { dst := some (s + 2), op := .call { callee := .builtin .len, args := #[.tmp (s + 1)], argTypes := #[22] }, type := y3, pos := p3, after := f3, guard := none },
      { dst := some (s + 3), op := .binOp .lss 3 (.tmp s) (.tmp (s + 2)) 3, type := y4, pos := p4, after := f4, guard := none }] false).seq
      (Code.cond (.tmp (s + 3)) Code.skip (Code.exit e))).wp Try.prog Q a w := by
  have hsz := h.sz
  have h' := h
  refine wp_seq (wp_region_lit ?_)
  refine wpls h' rfl rfl (by omega) (ex_move _) fun h' => ?_
  refine wpls h' rfl rfl (by omega) (ex_move _) fun h' => ?_
  refine wpls h' rfl rfl (by omega) (ex_len_slice _ ao n cap ?_) fun h' => ?_
  · simp (disch := (first | omega | (simp only [put_size]; omega))) only [ev_other, ev_same, hsl]
  refine wpls h' rfl rfl (by omega) (ex_lss _ _ (q : Nat) (n : Nat) ?_ (ev_same (by simp only [put_size]; omega))) fun h' => ?_
  · simp (disch := (first | omega | (simp only [put_size]; omega))) only [ev_other, ev_same, hiv]
  refine wpList_nil ?_
  refine wp_cond_split (ev_same (by simp only [put_size]; omega)) (fun e => wp_skip (hn _ h' ?_)) (fun e => wp_exit (hx _ h' ?_))
  · have := of_decide_eq_true e
    omega
  · have := of_decide_eq_false e
    omega
theorem next_eight {s : Nat} {i : Nat} {q : Nat} {y1 y2 y3 : TypeId} {p1 p2 p3 : String} {f1 f2 f3 : Array Edge} (h : St S0 S1 V7 (.int .i64 (q : Nat)) v9 a) (hs : 10 ≤ s ∧ s + 1 < 516) (hb : q + 1 ≤ 9007199254740992) (hn : ∀ a', St S0 S1 V7 (.int .i64 ((q + 1 : Nat) : Int)) v9 a' → Q .normal a' w) :
    (Code.region i #[
      { dst := some s, op := .move (.tmp 8), type := y1, pos := p1, after := f1, guard := none },
      { dst := some (s + 1), op := .binOp .add 3 (.tmp s) (.const (.int .i64 1)) 3, type := y2, pos := p2, after := f2, guard := none },
      { dst := some 8, op := .assign (.tmp (s + 1)), type := y3, pos := p3, after := f3, guard := none }] false).wp Try.prog Q a w := by
  have hsz := h.sz
  have h' := h
  refine wp_region_lit ?_
  refine wpls h' rfl rfl (by omega) (ex_move _) fun h' => ?_
  refine wpls h' rfl rfl (by omega) (ex_add _ _ q 1 ((ev_same (by omega)).trans h.t8) rfl hb) fun h' => ?_
  refine wpl rfl (ex_assign _) ?_
  refine wpList_nil ?_
  rw [ev_same (by simp only [put_size]; omega)]
  exact hn _ (h'.put8 _)
theorem next_nine {s : Nat} {i : Nat} {q : Nat} {y1 y2 y3 : TypeId} {p1 p2 p3 : String} {f1 f2 f3 : Array Edge} (h : St S0 S1 V7 v8 (.int .i64 (q : Nat)) a) (hs : 10 ≤ s ∧ s + 1 < 516) (hb : q + 1 ≤ 9007199254740992) (hn : ∀ a', St S0 S1 V7 v8 (.int .i64 ((q + 1 : Nat) : Int)) a' → Q .normal a' w) :
    (Code.region i #[
      { dst := some s, op := .move (.tmp 9), type := y1, pos := p1, after := f1, guard := none },
      { dst := some (s + 1), op := .binOp .add 3 (.tmp s) (.const (.int .i64 1)) 3, type := y2, pos := p2, after := f2, guard := none },
      { dst := some 9, op := .assign (.tmp (s + 1)), type := y3, pos := p3, after := f3, guard := none }] false).wp Try.prog Q a w := by
  have hsz := h.sz
  have h' := h
  refine wp_region_lit ?_
  refine wpls h' rfl rfl (by omega) (ex_move _) fun h' => ?_
  refine wpls h' rfl rfl (by omega) (ex_add _ _ q 1 ((ev_same (by omega)).trans h.t9) rfl hb) fun h' => ?_
  refine wpl rfl (ex_assign _) ?_
  refine wpList_nil ?_
  rw [ev_same (by simp only [put_size]; omega)]
  exact hn _ (h'.put9 _)
end

/-- a row's texts -/
theorem row_fields {z : Z} {w : World} {b o : Nat} (h : w.rangeAt b o (encZ z)) : ∃ tx : Nat → ByteArray, ∀ c, c = 2 ∨ (4 ≤ c ∧ c < 17) → w.cell? ⟨b, o + c, none⟩ = some (.string (tx c)) := by
  have hs : ∀ c, ∃ s, c = 2 ∨ (4 ≤ c ∧ c < 17) → (encZ z)[c]? = some (.string s) := by
    intro c
    by_cases hc : c = 2 ∨ (4 ≤ c ∧ c < 17)
    · rcases (by omega : c = 2 ∨ c = 4 ∨ c = 5 ∨ c = 6 ∨ c = 7 ∨ c = 8 ∨ c = 9 ∨ c = 10 ∨ c = 11 ∨ c = 12 ∨ c = 13 ∨ c = 14 ∨ c = 15 ∨ c = 16) with rfl | rfl | rfl | rfl | rfl | rfl | rfl | rfl | rfl | rfl | rfl | rfl | rfl | rfl
      all_goals exact ⟨_, fun _ => rfl⟩
    · exact ⟨ByteArray.empty, fun h => absurd h hc⟩
  exact ⟨fun c => (hs c).choose, fun c hc => h c _ ((hs c).choose_spec hc)⟩
theorem i64_val {q : Nat} : (intOf (Value.int .i64 (q : Nat))).toNat = q := by simp [intOf]

set_option maxRecDepth 20000 in
set_option maxHeartbeats 4000000 in
theorem zzBytes5_any (ao1 ao2 : Option Addr) (b1 o1 n1 c1 b2 o2 n2 c2 : Nat) (zs1 zs2 : List Z) (sh : Value) (w : World) (h1 : n1 = 0 ∨ ao1 = some ⟨b1, o1, none⟩) (h2 : n2 = 0 ∨ ao2 = some ⟨b2, o2, none⟩) (hn1 : zs1.length = n1) (hn2 : zs2.length = n2) (hr1 : ZRow w b1 o1 zs1) (hr2 : ZRow w b2 o2 zs2) :
    Calls Try.prog 5 #[.slice ao1 n1 c1, .slice ao2 n2 c2, sh] w fun x w' => Says True x ∧ w' = w := by
  refine calls_of_wp Try.func5 rfl ?_
  have hR : Rets (bodyPost Try.prog Try.f5 (fun x w' => Says True x ∧ w' = w)) w := fun a b _ hd he =>
    bodyPost_ret (v := .bool b) (he ▸ results_tmp rfl _ _ _) hd ⟨⟨b, rfl, fun _ => trivial⟩, rfl⟩
  obtain ⟨Q, hQ⟩ : ∃ Q, bodyPost Try.prog Try.f5 (fun x w' => Says True x ∧ w' = w) = Q := ⟨_, rfl⟩
  rw [hQ] at hR ⊢
  clear hQ
  have h : St (.slice ao1 n1 c1) (.slice ao2 n2 c2) undef undef undef { tmps := #[.slice ao1 n1 c1, .slice ao2 n2 c2, sh] ++ Array.replicate (Try.f5.ntmps - (#[.slice ao1 n1 c1, .slice ao2 n2 c2, sh] : Array Value).size) undef, defers := [] } := by
    rw [Try.ntmps5]
    refine ⟨by simp, rfl, ?_, ?_, ?_, ?_, ?_⟩
    all_goals simp [Act.eval, Array.getD_eq_getD_getElem?]
  generalize ({ tmps := #[.slice ao1 n1 c1, .slice ao2 n2 c2, sh] ++ Array.replicate (Try.f5.ntmps - (#[.slice ao1 n1 c1, .slice ao2 n2 c2, sh] : Array Value).size) undef, defers := [] } : Act) = a at h ⊢
  refine wp_seq (set_six h fun a h _ => ?_)
  refine wp_seq (set_seven h fun a h => ?_)
  refine wp_seq (row_test (sl := 0) (s := 10) h h.t0 (by decide) hR.then fun a h hle1 => ?_)
  refine wp_seq (row_add (T := 0) (sl := 0) (s := 13) h h.t0 (by decide) (by decide) (by omega) fun a h => ?_)
  refine wp_seq (sum_test (s := 17) h (by decide) hR.then fun a h hT => ?_)
  refine wp_seq (wp_seq (set_eight h fun a h => ?_))
  refine wp_block (wp_loop (fun a' w' => w' = w ∧ ∃ T q : Nat, T ≤ 1048576 ∧ q ≤ n1 ∧ St (.slice ao1 n1 c1) (.slice ao2 n2 c2) (.int .i64 (T : Nat)) (.int .i64 (q : Nat)) undef a') (fun a' _ => n1 - (intOf (a'.eval (.tmp 8))).toNat) ⟨rfl, 0 + n1, 0, hT, Nat.zero_le _, h⟩ ?_)
  · clear h a
    rintro a w ⟨rfl, T, q, hT, hqn, h⟩
    have hμ : (intOf (a.eval (.tmp 8))).toNat = q := by rw [h.t8]; exact i64_val
    rw [hμ]
    clear hμ
    refine wp_seq (head_test (sl := 0) (iv := 8) (s := 19) h h.t0 h.t8 (by decide) (by decide) (fun a h hq => ?_) (fun a h hnq => ?_))
    · obtain rfl : ao1 = some ⟨b1, o1, none⟩ := h1.resolve_left (by omega)
      obtain ⟨tx, hcell⟩ := row_fields (hr1 q (by omega))
      refine wp_seq (wp_block ?_)
      refine wp_seq (fld_test (sl := 0) (iv := 8) (s := 25) (c := 2) h h.t0 h.t8 (by decide) (by decide) hq (by decide) (hcell 2 (by omega)) hR fun a h hle => ?_)
      refine wp_seq (fld_add (sl := 0) (iv := 8) (s := 32) (c := 2) h h.t0 h.t8 (by decide) (by decide) (by decide) hq (by decide) (hcell 2 (by omega)) (by omega) fun a h => ?_)
      refine wp_seq (sum_test (s := 40) h (by decide) hR fun a h hT => ?_)
      refine wp_seq (fld_test (sl := 0) (iv := 8) (s := 42) (c := 4) h h.t0 h.t8 (by decide) (by decide) hq (by decide) (hcell 4 (by omega)) hR fun a h hle => ?_)
      refine wp_seq (fld_add (sl := 0) (iv := 8) (s := 49) (c := 4) h h.t0 h.t8 (by decide) (by decide) (by decide) hq (by decide) (hcell 4 (by omega)) (by omega) fun a h => ?_)
      refine wp_seq (sum_test (s := 57) h (by decide) hR fun a h hT => ?_)
      refine wp_seq (fld_test (sl := 0) (iv := 8) (s := 59) (c := 5) h h.t0 h.t8 (by decide) (by decide) hq (by decide) (hcell 5 (by omega)) hR fun a h hle => ?_)
      refine wp_seq (fld_add (sl := 0) (iv := 8) (s := 66) (c := 5) h h.t0 h.t8 (by decide) (by decide) (by decide) hq (by decide) (hcell 5 (by omega)) (by omega) fun a h => ?_)
      refine wp_seq (sum_test (s := 74) h (by decide) hR fun a h hT => ?_)
      refine wp_seq (fld_test (sl := 0) (iv := 8) (s := 76) (c := 6) h h.t0 h.t8 (by decide) (by decide) hq (by decide) (hcell 6 (by omega)) hR fun a h hle => ?_)
      refine wp_seq (fld_add (sl := 0) (iv := 8) (s := 83) (c := 6) h h.t0 h.t8 (by decide) (by decide) (by decide) hq (by decide) (hcell 6 (by omega)) (by omega) fun a h => ?_)
      refine wp_seq (sum_test (s := 91) h (by decide) hR fun a h hT => ?_)
      refine wp_seq (fld_test (sl := 0) (iv := 8) (s := 93) (c := 7) h h.t0 h.t8 (by decide) (by decide) hq (by decide) (hcell 7 (by omega)) hR fun a h hle => ?_)
      refine wp_seq (fld_add (sl := 0) (iv := 8) (s := 100) (c := 7) h h.t0 h.t8 (by decide) (by decide) (by decide) hq (by decide) (hcell 7 (by omega)) (by omega) fun a h => ?_)
      refine wp_seq (sum_test (s := 108) h (by decide) hR fun a h hT => ?_)
      refine wp_seq (fld_test (sl := 0) (iv := 8) (s := 110) (c := 8) h h.t0 h.t8 (by decide) (by decide) hq (by decide) (hcell 8 (by omega)) hR fun a h hle => ?_)
      refine wp_seq (fld_add (sl := 0) (iv := 8) (s := 117) (c := 8) h h.t0 h.t8 (by decide) (by decide) (by decide) hq (by decide) (hcell 8 (by omega)) (by omega) fun a h => ?_)
      refine wp_seq (sum_test (s := 125) h (by decide) hR fun a h hT => ?_)
      refine wp_seq (fld_test (sl := 0) (iv := 8) (s := 127) (c := 9) h h.t0 h.t8 (by decide) (by decide) hq (by decide) (hcell 9 (by omega)) hR fun a h hle => ?_)
      refine wp_seq (fld_add (sl := 0) (iv := 8) (s := 134) (c := 9) h h.t0 h.t8 (by decide) (by decide) (by decide) hq (by decide) (hcell 9 (by omega)) (by omega) fun a h => ?_)
      refine wp_seq (sum_test (s := 142) h (by decide) hR fun a h hT => ?_)
      refine wp_seq (fld_test (sl := 0) (iv := 8) (s := 144) (c := 10) h h.t0 h.t8 (by decide) (by decide) hq (by decide) (hcell 10 (by omega)) hR fun a h hle => ?_)
      refine wp_seq (fld_add (sl := 0) (iv := 8) (s := 151) (c := 10) h h.t0 h.t8 (by decide) (by decide) (by decide) hq (by decide) (hcell 10 (by omega)) (by omega) fun a h => ?_)
      refine wp_seq (sum_test (s := 159) h (by decide) hR fun a h hT => ?_)
      refine wp_seq (fld_test (sl := 0) (iv := 8) (s := 161) (c := 11) h h.t0 h.t8 (by decide) (by decide) hq (by decide) (hcell 11 (by omega)) hR fun a h hle => ?_)
      refine wp_seq (fld_add (sl := 0) (iv := 8) (s := 168) (c := 11) h h.t0 h.t8 (by decide) (by decide) (by decide) hq (by decide) (hcell 11 (by omega)) (by omega) fun a h => ?_)
      refine wp_seq (sum_test (s := 176) h (by decide) hR fun a h hT => ?_)
      refine wp_seq (fld_test (sl := 0) (iv := 8) (s := 178) (c := 12) h h.t0 h.t8 (by decide) (by decide) hq (by decide) (hcell 12 (by omega)) hR fun a h hle => ?_)
      refine wp_seq (fld_add (sl := 0) (iv := 8) (s := 185) (c := 12) h h.t0 h.t8 (by decide) (by decide) (by decide) hq (by decide) (hcell 12 (by omega)) (by omega) fun a h => ?_)
      refine wp_seq (sum_test (s := 193) h (by decide) hR fun a h hT => ?_)
      refine wp_seq (fld_test (sl := 0) (iv := 8) (s := 195) (c := 13) h h.t0 h.t8 (by decide) (by decide) hq (by decide) (hcell 13 (by omega)) hR fun a h hle => ?_)
      refine wp_seq (fld_add (sl := 0) (iv := 8) (s := 202) (c := 13) h h.t0 h.t8 (by decide) (by decide) (by decide) hq (by decide) (hcell 13 (by omega)) (by omega) fun a h => ?_)
      refine wp_seq (sum_test (s := 210) h (by decide) hR fun a h hT => ?_)
      refine wp_seq (fld_test (sl := 0) (iv := 8) (s := 212) (c := 14) h h.t0 h.t8 (by decide) (by decide) hq (by decide) (hcell 14 (by omega)) hR fun a h hle => ?_)
      refine wp_seq (fld_add (sl := 0) (iv := 8) (s := 219) (c := 14) h h.t0 h.t8 (by decide) (by decide) (by decide) hq (by decide) (hcell 14 (by omega)) (by omega) fun a h => ?_)
      refine wp_seq (sum_test (s := 227) h (by decide) hR fun a h hT => ?_)
      refine wp_seq (fld_test (sl := 0) (iv := 8) (s := 229) (c := 15) h h.t0 h.t8 (by decide) (by decide) hq (by decide) (hcell 15 (by omega)) hR fun a h hle => ?_)
      refine wp_seq (fld_add (sl := 0) (iv := 8) (s := 236) (c := 15) h h.t0 h.t8 (by decide) (by decide) (by decide) hq (by decide) (hcell 15 (by omega)) (by omega) fun a h => ?_)
      refine wp_seq (sum_test (s := 244) h (by decide) hR fun a h hT => ?_)
      refine wp_seq (fld_test (sl := 0) (iv := 8) (s := 246) (c := 16) h h.t0 h.t8 (by decide) (by decide) hq (by decide) (hcell 16 (by omega)) hR fun a h hle => ?_)
      refine wp_seq (fld_add (sl := 0) (iv := 8) (s := 253) (c := 16) h h.t0 h.t8 (by decide) (by decide) (by decide) hq (by decide) (hcell 16 (by omega)) (by omega) fun a h => ?_)
      refine sum_test (s := 261) h (by decide) hR fun a h hT => ?_
      refine next_eight (s := 23) h (by decide) (by omega) fun a h => ⟨⟨rfl, _, q + 1, hT, hq, h⟩, ?_⟩
      show n1 - (intOf (a.eval (.tmp 8))).toNat < n1 - q
      rw [h.t8, i64_val]
      omega
    · refine exit_out ?_
      refine wp_seq (row_test (sl := 1) (s := 263) h h.t1 (by decide) hR.then fun a h hle2 => ?_)
      refine wp_seq (row_add (sl := 1) (s := 266) h h.t1 (by decide) (by decide) (by omega) fun a h => ?_)
      refine wp_seq (sum_test (s := 270) h (by decide) hR.then fun a h hT => ?_)
      refine wp_seq (wp_seq (set_nine h fun a h => ?_))
      refine wp_block (wp_loop (fun a' w' => w' = w ∧ ∃ T q : Nat, T ≤ 1048576 ∧ q ≤ n2 ∧ St (.slice ao1 n1 c1) (.slice ao2 n2 c2) (.int .i64 (T : Nat)) _ (.int .i64 (q : Nat)) a') (fun a' _ => n2 - (intOf (a'.eval (.tmp 9))).toNat) ⟨rfl, _, 0, hT, Nat.zero_le _, h⟩ ?_)
      clear h a
      rintro a w ⟨rfl, T, q, hT, hqn, h⟩
      have hμ : (intOf (a.eval (.tmp 9))).toNat = q := by rw [h.t9]; exact i64_val
      rw [hμ]
      clear hμ
      refine wp_seq (head_test (sl := 1) (iv := 9) (s := 272) h h.t1 h.t9 (by decide) (by decide) (fun a h hq => ?_) (fun a h hnq => ?_))
      · obtain rfl : ao2 = some ⟨b2, o2, none⟩ := h2.resolve_left (by omega)
        obtain ⟨tx, hcell⟩ := row_fields (hr2 q (by omega))
        refine wp_seq (wp_block ?_)
        refine wp_seq (fld_test (sl := 1) (iv := 9) (s := 278) (c := 2) h h.t1 h.t9 (by decide) (by decide) hq (by decide) (hcell 2 (by omega)) hR fun a h hle => ?_)
        refine wp_seq (fld_add (sl := 1) (iv := 9) (s := 285) (c := 2) h h.t1 h.t9 (by decide) (by decide) (by decide) hq (by decide) (hcell 2 (by omega)) (by omega) fun a h => ?_)
        refine wp_seq (sum_test (s := 293) h (by decide) hR fun a h hT => ?_)
        refine wp_seq (fld_test (sl := 1) (iv := 9) (s := 295) (c := 4) h h.t1 h.t9 (by decide) (by decide) hq (by decide) (hcell 4 (by omega)) hR fun a h hle => ?_)
        refine wp_seq (fld_add (sl := 1) (iv := 9) (s := 302) (c := 4) h h.t1 h.t9 (by decide) (by decide) (by decide) hq (by decide) (hcell 4 (by omega)) (by omega) fun a h => ?_)
        refine wp_seq (sum_test (s := 310) h (by decide) hR fun a h hT => ?_)
        refine wp_seq (fld_test (sl := 1) (iv := 9) (s := 312) (c := 5) h h.t1 h.t9 (by decide) (by decide) hq (by decide) (hcell 5 (by omega)) hR fun a h hle => ?_)
        refine wp_seq (fld_add (sl := 1) (iv := 9) (s := 319) (c := 5) h h.t1 h.t9 (by decide) (by decide) (by decide) hq (by decide) (hcell 5 (by omega)) (by omega) fun a h => ?_)
        refine wp_seq (sum_test (s := 327) h (by decide) hR fun a h hT => ?_)
        refine wp_seq (fld_test (sl := 1) (iv := 9) (s := 329) (c := 6) h h.t1 h.t9 (by decide) (by decide) hq (by decide) (hcell 6 (by omega)) hR fun a h hle => ?_)
        refine wp_seq (fld_add (sl := 1) (iv := 9) (s := 336) (c := 6) h h.t1 h.t9 (by decide) (by decide) (by decide) hq (by decide) (hcell 6 (by omega)) (by omega) fun a h => ?_)
        refine wp_seq (sum_test (s := 344) h (by decide) hR fun a h hT => ?_)
        refine wp_seq (fld_test (sl := 1) (iv := 9) (s := 346) (c := 7) h h.t1 h.t9 (by decide) (by decide) hq (by decide) (hcell 7 (by omega)) hR fun a h hle => ?_)
        refine wp_seq (fld_add (sl := 1) (iv := 9) (s := 353) (c := 7) h h.t1 h.t9 (by decide) (by decide) (by decide) hq (by decide) (hcell 7 (by omega)) (by omega) fun a h => ?_)
        refine wp_seq (sum_test (s := 361) h (by decide) hR fun a h hT => ?_)
        refine wp_seq (fld_test (sl := 1) (iv := 9) (s := 363) (c := 8) h h.t1 h.t9 (by decide) (by decide) hq (by decide) (hcell 8 (by omega)) hR fun a h hle => ?_)
        refine wp_seq (fld_add (sl := 1) (iv := 9) (s := 370) (c := 8) h h.t1 h.t9 (by decide) (by decide) (by decide) hq (by decide) (hcell 8 (by omega)) (by omega) fun a h => ?_)
        refine wp_seq (sum_test (s := 378) h (by decide) hR fun a h hT => ?_)
        refine wp_seq (fld_test (sl := 1) (iv := 9) (s := 380) (c := 9) h h.t1 h.t9 (by decide) (by decide) hq (by decide) (hcell 9 (by omega)) hR fun a h hle => ?_)
        refine wp_seq (fld_add (sl := 1) (iv := 9) (s := 387) (c := 9) h h.t1 h.t9 (by decide) (by decide) (by decide) hq (by decide) (hcell 9 (by omega)) (by omega) fun a h => ?_)
        refine wp_seq (sum_test (s := 395) h (by decide) hR fun a h hT => ?_)
        refine wp_seq (fld_test (sl := 1) (iv := 9) (s := 397) (c := 10) h h.t1 h.t9 (by decide) (by decide) hq (by decide) (hcell 10 (by omega)) hR fun a h hle => ?_)
        refine wp_seq (fld_add (sl := 1) (iv := 9) (s := 404) (c := 10) h h.t1 h.t9 (by decide) (by decide) (by decide) hq (by decide) (hcell 10 (by omega)) (by omega) fun a h => ?_)
        refine wp_seq (sum_test (s := 412) h (by decide) hR fun a h hT => ?_)
        refine wp_seq (fld_test (sl := 1) (iv := 9) (s := 414) (c := 11) h h.t1 h.t9 (by decide) (by decide) hq (by decide) (hcell 11 (by omega)) hR fun a h hle => ?_)
        refine wp_seq (fld_add (sl := 1) (iv := 9) (s := 421) (c := 11) h h.t1 h.t9 (by decide) (by decide) (by decide) hq (by decide) (hcell 11 (by omega)) (by omega) fun a h => ?_)
        refine wp_seq (sum_test (s := 429) h (by decide) hR fun a h hT => ?_)
        refine wp_seq (fld_test (sl := 1) (iv := 9) (s := 431) (c := 12) h h.t1 h.t9 (by decide) (by decide) hq (by decide) (hcell 12 (by omega)) hR fun a h hle => ?_)
        refine wp_seq (fld_add (sl := 1) (iv := 9) (s := 438) (c := 12) h h.t1 h.t9 (by decide) (by decide) (by decide) hq (by decide) (hcell 12 (by omega)) (by omega) fun a h => ?_)
        refine wp_seq (sum_test (s := 446) h (by decide) hR fun a h hT => ?_)
        refine wp_seq (fld_test (sl := 1) (iv := 9) (s := 448) (c := 13) h h.t1 h.t9 (by decide) (by decide) hq (by decide) (hcell 13 (by omega)) hR fun a h hle => ?_)
        refine wp_seq (fld_add (sl := 1) (iv := 9) (s := 455) (c := 13) h h.t1 h.t9 (by decide) (by decide) (by decide) hq (by decide) (hcell 13 (by omega)) (by omega) fun a h => ?_)
        refine wp_seq (sum_test (s := 463) h (by decide) hR fun a h hT => ?_)
        refine wp_seq (fld_test (sl := 1) (iv := 9) (s := 465) (c := 14) h h.t1 h.t9 (by decide) (by decide) hq (by decide) (hcell 14 (by omega)) hR fun a h hle => ?_)
        refine wp_seq (fld_add (sl := 1) (iv := 9) (s := 472) (c := 14) h h.t1 h.t9 (by decide) (by decide) (by decide) hq (by decide) (hcell 14 (by omega)) (by omega) fun a h => ?_)
        refine wp_seq (sum_test (s := 480) h (by decide) hR fun a h hT => ?_)
        refine wp_seq (fld_test (sl := 1) (iv := 9) (s := 482) (c := 15) h h.t1 h.t9 (by decide) (by decide) hq (by decide) (hcell 15 (by omega)) hR fun a h hle => ?_)
        refine wp_seq (fld_add (sl := 1) (iv := 9) (s := 489) (c := 15) h h.t1 h.t9 (by decide) (by decide) (by decide) hq (by decide) (hcell 15 (by omega)) (by omega) fun a h => ?_)
        refine wp_seq (sum_test (s := 497) h (by decide) hR fun a h hT => ?_)
        refine wp_seq (fld_test (sl := 1) (iv := 9) (s := 499) (c := 16) h h.t1 h.t9 (by decide) (by decide) hq (by decide) (hcell 16 (by omega)) hR fun a h hle => ?_)
        refine wp_seq (fld_add (sl := 1) (iv := 9) (s := 506) (c := 16) h h.t1 h.t9 (by decide) (by decide) (by decide) hq (by decide) (hcell 16 (by omega)) (by omega) fun a h => ?_)
        refine sum_test (s := 514) h (by decide) hR fun a h hT => ?_
        refine next_nine (s := 276) h (by decide) (by omega) fun a h => ⟨⟨rfl, _, q + 1, hT, hq, h⟩, ?_⟩
        show n2 - (intOf (a.eval (.tmp 9))).toNat < n2 - q
        rw [h.t9, i64_val]
        omega
      · refine exit_out ?_
        refine wp_seq (set_six h fun a h e => wp_ret (hR a true h.sz h.df e))
end Go.Proofs.Qxb6603644a
