/-
  THE WALK of zzModel (13): it computes mdl.
-/
import Derived.Test.Qxb6603644aStrict
import Derived.Test.Qxb6603644aModel
import Derived.Deep.DeepCutAuto
import Derived.Deep.CutBlock
import Derived.Deep.QuietTactic
import Derived.Deep.MidRow
namespace Go.Proofs.Qxb6603644a
open Go.RowKit Go.Shelf

/-! ### a region that draws, read once: at the class 'what was there stands' -/
/-- wpQuiet, shut (else 'refine' lays it open at a guarded operation) -/
@[irreducible] def WQ (P : Program) (ops : Array Oper) (C : World → Prop) (Q : Act → Prop) (l : List Oper) (a : Act) : Prop := wpQuiet P ops C Q l a
theorem WQ.out {P : Program} {ops : Array Oper} {C : World → Prop} {Q : Act → Prop} {l : List Oper} {a : Act} (h : WQ P ops C Q l a) : wpQuiet P ops C Q l a := by unfold WQ at h; exact h
theorem WQ.mk {P : Program} {ops : Array Oper} {C : World → Prop} {Q : Act → Prop} {l : List Oper} {a : Act} (h : wpQuiet P ops C Q l a) : WQ P ops C Q l a := by unfold WQ; exact h
section
variable {P : Program} {ops : Array Oper} {C : World → Prop} {Q : Act → Prop} {a : Act} {o : Oper} {rest : List Oper} {v : Value}
theorem wpq_val (hw : Region.wanted o (yielded ops a.tmps) = true) (hr : ∀ w', C w' → (execOp a.eval o).run P w' = .ok (.value v) w') (hk : ∀ K : Act → Prop, (∀ a, WQ P ops C Q rest a → K a) → K (a.put o.dst v)) : WQ P ops C Q (o :: rest) a := by
  refine WQ.mk (wpQuiet_step fun K hK => ?_)
  rw [if_pos hw]
  refine ⟨v, fun w' hw' => ?_, hk K (fun a h => hK a h.out)⟩
  unfold Oper.quietAt
  rw [hr w' hw']
  exact ⟨rfl, rfl⟩
theorem wpq_skip (hw : Region.wanted o (yielded ops a.tmps) = false) (hk : ∀ K : Act → Prop, (∀ a, WQ P ops C Q rest a → K a) → K (a.put o.dst undef)) : WQ P ops C Q (o :: rest) a := by
  refine WQ.mk (wpQuiet_step fun K hK => ?_)
  rw [if_neg (by rw [hw]; decide)]
  exact hk K (fun a h => hK a h.out)
theorem wpq_call {f : FuncId} {args : Array Value} (hw : Region.wanted o (yielded ops a.tmps) = true) (hr : ∀ w', C w' → (execOp a.eval o).run P w' = .ok (.enter f args) w') (hc : ∀ w', C w' → Calls P f args w' fun e w'' => e = .returned v ∧ C w'') (hk : ∀ K : Act → Prop, (∀ a, WQ P ops C Q rest a → K a) → K (a.put o.dst v)) : WQ P ops C Q (o :: rest) a := by
  refine WQ.mk (wpQuiet_step fun K hK => ?_)
  rw [if_pos hw]
  refine ⟨v, fun w' hw' => ?_, hk K (fun a h => hK a h.out)⟩
  unfold Oper.quietAt
  rw [hr w' hw']
  exact ⟨rfl, hc w' hw'⟩
theorem wpq_load (hw : Region.wanted o (yielded ops a.tmps) = true) (ty : TypeId) (x : Operand) (ho : o.op = .load ty x) (b q : Nat) (hx : a.eval x = .pointer (some ⟨b, q, none⟩)) (cs : List Value) (d : TypeDesc) (hS : ∀ w, C w → w.rangeAt b q cs)
    (hu : P.underlying ty = some d) (hd : d.isRow = true) (hi : (P.info? ty).map (·.size) = some cs.length) (hk : ∀ K : Act → Prop, (∀ a, WQ P ops C Q rest a → K a) → K (a.put o.dst (.agg cs.toArray))) : WQ P ops C Q (o :: rest) a :=
  wpq_val hw (fun w hw' => by
    unfold execOp
    simp only [ho, hx, Instr.loadAt, Instr.sureAddr, Sem.run_bind, Sem.run_pure, Result.andThen_ok, run_loadVar_mid w b q ty cs d (hS w hw') hu hd hi]) hk
theorem wpq_nil (h : Q a) : WQ P ops C Q [] a := WQ.mk (wpQuiet_nil h)
end
/-- a region that only reads and calls what writes nothing of what was there -/
theorem wp_region_below {P : Program} {id : Nat} {Q : Exit → Act → World → Prop} {a : Act} {w : World} {l : List Oper} (hm : P.follows .mixedOrders = true) (hB : Region.lexB .any l.toArray = true)
    (h : WQ P l.toArray (fun w' => Below w.heap.size w w') (fun a' => ∀ w', Below w.heap.size w w' → Q .normal a' w') l a) : (Code.region id l.toArray true).wp P Q a w :=
  wp_region_quiet (C := fun w' => Below w.heap.size w w') hm hB ⟨rfl, rfl, rfl, Nat.le_refl _, fun _ _ => rfl⟩ (by simpa using h.out)
theorem calls_below {P : Program} {f : FuncId} {args : Array Value} {w w' : World} {v : Value} (hb : Below w.heap.size w w') (h : Calls P f args w' fun e w'' => e = .returned v ∧ Below w'.heap.size w' w'') : Calls P f args w' fun e w'' => e = .returned v ∧ Below w.heap.size w w'' :=
  h.mono fun _ _ ⟨he, h2⟩ => ⟨he, hb.trans (h2.mono hb.size)⟩

/-! ### plain -/
theorem mdl_len : ∀ (f : Nat) (bs cs : List Z), (mdl f bs cs).length ≤ f
  | 0, _, _ => by simp [mdl]
  | f + 1, bs, cs => by
    unfold mdl
    split
    · simp
    · split
      · simp only [List.length_cons]
        have := mdl_len f (bs.dropWhile (sk · (pickZ bs cs))) (cs.dropWhile (sk · (pickZ bs cs)))
        omega
      · have := mdl_len f (bs.dropWhile (sk · (pickZ bs cs))) (cs.dropWhile (sk · (pickZ bs cs)))
        omega
theorem zAt_eq {zs : List Z} {i : Nat} (h : i < zs.length) : zAt zs i = zs[i] := by
  unfold zAt
  rw [List.getD_eq_getElem?_getD, List.getElem?_eq_getElem h]
  rfl
theorem zdrop {zs : List Z} {i : Nat} (h : i < zs.length) : zs.drop i = zAt zs i :: zs.drop (i + 1) := by
  rw [List.drop_eq_getElem_cons h, zAt_eq h]
/-- the loop over those that have k's key, at i' -/
structure TW (k : Z) (xs : List Z) (i i' : Nat) (l0 l : Z) : Prop where
  le : i ≤ i' ∧ i' ≤ xs.length
  dw : (xs.drop i').dropWhile (sk · k) = (xs.drop i).dropWhile (sk · k)
  tw : (((xs.drop i').takeWhile (sk · k)).getLast?).getD l = (((xs.drop i).takeWhile (sk · k)).getLast?).getD l0
theorem TW.start {k : Z} {xs : List Z} {i : Nat} {l0 : Z} (h : i ≤ xs.length) : TW k xs i i l0 l0 := ⟨⟨Nat.le_refl _, h⟩, rfl, rfl⟩
theorem last_cons (x l : Z) (t : List Z) : ((x :: t).getLast?).getD l = (t.getLast?).getD x := by
  cases h : t.getLast? with
  | none =>
    rw [List.getLast?_eq_none_iff.1 h]
    rfl
  | some y => rw [List.getLast?_cons, h]; rfl
theorem TW.step {k : Z} {xs : List Z} {i i' : Nat} {l0 l : Z} (h : TW k xs i i' l0 l) (hi : i' < xs.length) (hs : sk (zAt xs i') k = true) : TW k xs i (i' + 1) l0 (zAt xs i') := by
  have h1 := h.dw
  have h2 := h.tw
  rw [zdrop hi, List.dropWhile_cons, if_pos hs] at h1
  rw [zdrop hi, List.takeWhile_cons, if_pos hs, last_cons] at h2
  exact ⟨⟨by have := h.le; omega, hi⟩, h1, h2⟩
theorem TW.fin {k : Z} {xs : List Z} {i i' : Nat} {l0 l : Z} (h : TW k xs i i' l0 l) (hs : i' < xs.length → sk (zAt xs i') k = false) : xs.drop i' = (xs.drop i).dropWhile (sk · k) ∧ l = (((xs.drop i).takeWhile (sk · k)).getLast?).getD l0 := by
  have h1 := h.dw
  have h2 := h.tw
  by_cases hi : i' < xs.length
  · have hs' := hs hi
    rw [zdrop hi, List.dropWhile_cons, if_neg (by rw [hs']; decide), ← zdrop hi] at h1
    rw [zdrop hi, List.takeWhile_cons, if_neg (by rw [hs']; decide)] at h2
    exact ⟨h1, h2⟩
  · rw [List.drop_eq_nil_of_le (by omega)] at h1 h2 ⊢
    exact ⟨h1, h2⟩
theorem lastZ_eq (bs cs : List Z) (k : Z) : lastZ bs cs k = ((cs.takeWhile (sk · k)).getLast?).getD (((bs.takeWhile (sk · k)).getLast?).getD k) := by
  unfold lastZ
  cases (cs.takeWhile (sk · k)).getLast? <;> rfl
theorem sk_self (k : Z) : sk k k = true := (sk_iff k k).2 ⟨rfl, rfl⟩
theorem drop_lt {xs : List Z} {k : Z} {i : Nat} (hi : i < xs.length) (hs : sk (zAt xs i) k = true) : ((xs.drop i).dropWhile (sk · k)).length < xs.length - i := by
  rw [zdrop hi, List.dropWhile_cons, if_pos hs]
  have := (List.dropWhile_sublist (sk · k) (l := xs.drop (i + 1))).length_le
  rw [List.length_drop] at this
  omega
theorem pick_at {bs cs : List Z} {i j : Nat} (h : i < bs.length ∨ j < cs.length) : pickZ (bs.drop i) (cs.drop j) = if (decide (cs.length ≤ j) || (decide (i < bs.length) && keyLess (zAt bs i) (zAt cs j))) = true then zAt bs i else zAt cs j := by
  by_cases h1 : i < bs.length
  · by_cases h2 : j < cs.length
    · rw [zdrop h1, zdrop h2]
      simp only [pickZ]
      have e1 : decide (cs.length ≤ j) = false := by simp; omega
      rw [e1, decide_eq_true h1, Bool.false_or, Bool.true_and]
    · rw [zdrop h1, List.drop_eq_nil_of_le (show cs.length ≤ j by omega)]
      simp only [pickZ]
      rw [decide_eq_true (show cs.length ≤ j by omega), Bool.true_or, if_pos rfl]
  · have h2 : j < cs.length := h.resolve_left h1
    rw [zdrop h2, List.drop_eq_nil_of_le (show bs.length ≤ i by omega)]
    simp only [pickZ]
    have e1 : decide (cs.length ≤ j) = false := by simp; omega
    rw [e1, decide_eq_false h1, Bool.false_or, Bool.false_and, if_neg (by decide)]
theorem mdl_step {f : Nat} {bs cs : List Z} (h : ¬ (bs = [] ∧ cs = [])) : mdl (f + 1) bs cs = (if (lastZ bs cs (pickZ bs cs)).put = true then [lastZ bs cs (pickZ bs cs)] else []) ++ mdl f (bs.dropWhile (sk · (pickZ bs cs))) (cs.dropWhile (sk · (pickZ bs cs))) := by
  conv => lhs; unfold mdl
  rw [if_neg h]
  split <;> simp

/-! ### memory -/
theorem grown_below {W W' : World} (h : Below W.heap.size W W') : W.grownBy W' none := ⟨h.os, h.tape, h.output, h.size, fun k hk _ => h.block k hk⟩
structure MO (w : World) (v : Value) (os : List Z) (W : World) : Prop where
  own : W.ownsRow w.heap.size 41 21 v os.length (os.flatMap encZ)
  below : Below w.heap.size w W
theorem own_later {W W' : World} {B : Nat} {e : TypeId} {size n : Nat} {v : Value} {xs : List Value} (h : W.ownsRow B e size v n xs) (hb : Below W.heap.size W W') : W'.ownsRow B e size v n xs := h.kept (grown_below hb) (by cases hv : v.ownBlock <;> simp)
theorem MO.later {w : World} {v : Value} {os : List Z} {W W' : World} (h : MO w v os W) (hb : Below W.heap.size W W') : MO w v os W' := ⟨own_later h.own hb, h.below.trans (hb.mono h.below.size)⟩
theorem MO.ne {w : World} {v : Value} {os : List Z} {W : World} (h : MO w v os W) {b : Nat} (hb : W.heap.size ≤ b) : v.ownBlock ≠ some b := fun e => by have := (h.own.lt b e).2; omega
theorem range_later {W W' : World} {b o : Nat} {xs : List Value} (h : W.rangeAt b o xs) (hb : Below W.heap.size W W') : W'.rangeAt b o xs := fun j v hv => Keep.below (X := Nowhere) hb _ _ (fun h => h) (h j v hv)
/-- the key lies in K8 -/
structure MA (w : World) (K8 : Nat) (k : Z) (v : Value) (os : List Z) (W : World) : Prop where
  k8 : W.rangeAt K8 0 (encZ k)
  mo : MO w v os W
  nv : v.ownBlock ≠ some K8
  ge : w.heap.size ≤ K8
  lt : K8 < W.heap.size
theorem MA.later {w : World} {K8 : Nat} {k : Z} {v : Value} {os : List Z} {W W' : World} (h : MA w K8 k v os W) (hb : Below W.heap.size W W') : MA w K8 k v os W' := ⟨range_later h.k8 hb, h.mo.later hb, h.nv, h.ge, by have := hb.size; have := h.lt; omega⟩
/-- the last of the key lies in K9 -/
structure MB (w : World) (K8 K9 : Nat) (k l : Z) (v : Value) (os : List Z) (W : World) : Prop where
  ma : MA w K8 k v os W
  k9 : W.rangeAt K9 0 (encZ l)
  t9 : W.there K9 0 21
  ne : K8 ≠ K9
  nv : v.ownBlock ≠ some K9
  ge : w.heap.size ≤ K9
  lt : K9 < W.heap.size
theorem MB.later {w : World} {K8 K9 : Nat} {k l : Z} {v : Value} {os : List Z} {W W' : World} (h : MB w K8 K9 k l v os W) (hb : Below W.heap.size W W') : MB w K8 K9 k l v os W' := ⟨h.ma.later hb, range_later h.k9 hb, there_below h.t9 hb h.lt, h.ne, h.nv, h.ge, by have := hb.size; have := h.lt; omega⟩
theorem below_drew (W : World) : Below W.heap.size W W.drew := ⟨rfl, rfl, rfl, Nat.le_refl _, fun _ _ => rfl⟩
theorem own_cells {W : World} {B : Nat} {e : TypeId} {size n b o : Nat} {v : Value} {xs : List Value} (h : W.ownsRow B e size v n xs) (hb : v.ownBlock ≠ some b) (vs : List Value) : (W.setCells b o vs).ownsRow B e size v n xs := by
  have hk := others_setCells b vs o W W (KeepsOthers.refl _)
  refine ⟨h.1, ?_⟩
  rcases h.2 with hn | ⟨g, cap, cur, rfl, h1, h2, rest⟩
  · exact .inl hn
  · refine .inr ⟨g, cap, cur, rfl, h1, ?_, rest⟩
    rw [heap_setCells b vs o W g (fun e => hb (by rw [← e]; rfl))]
    exact h2
theorem MO.cells {w : World} {v : Value} {os : List Z} {W : World} (h : MO w v os W) {b o : Nat} (hb : v.ownBlock ≠ some b) (hg : w.heap.size ≤ b) (vs : List Value) : MO w v os (W.setCells b o vs) := ⟨own_cells h.own hb vs, Below.setCells' h.below hg _ _⟩
theorem MA.mk8 {w : World} {K8 : Nat} {k : Z} {v : Value} {os : List Z} {W : World} (h : MO w v os W) (ht : W.there K8 0 21) (nv : v.ownBlock ≠ some K8) (ge : w.heap.size ≤ K8) (lt : K8 < W.heap.size) : MA w K8 k v os (W.setCells K8 0 (encZ k)) :=
  ⟨World.rangeAt_setCells_same W K8 _ _ ht, h.cells nv ge _, nv, ge, by rw [size_setCells]; exact lt⟩
theorem MB.set {w : World} {K8 K9 : Nat} {k l : Z} {v : Value} {os : List Z} {W : World} (h : MB w K8 K9 k l v os W) (x : Z) : MB w K8 K9 k x v os (W.setCells K9 0 (encZ x)) :=
  ⟨⟨World.rangeAt_setCells_apart h.ma.k8 K9 _ _ (.inl h.ne), h.ma.mo.cells h.nv h.ge _, h.ma.nv, h.ma.ge, by rw [size_setCells]; exact h.ma.lt⟩, World.rangeAt_setCells_same W K9 _ _ h.t9, there_cells _ h.t9, h.ne, h.nv, h.ge, by rw [size_setCells]; exact h.lt⟩
theorem MB.mk9 {w : World} {K8 K9 : Nat} {k : Z} {v : Value} {os : List Z} {W : World} (h : MA w K8 k v os W) (ht : W.there K9 0 21) (ne : K8 ≠ K9) (nv : v.ownBlock ≠ some K9) (ge : w.heap.size ≤ K9) (lt : K9 < W.heap.size) : MB w K8 K9 k k v os (W.setCells K9 0 (encZ k)) :=
  ⟨⟨World.rangeAt_setCells_apart h.k8 K9 _ _ (.inl ne), h.mo.cells nv ge _, h.nv, h.ge, by rw [size_setCells]; exact h.lt⟩, World.rangeAt_setCells_same W K9 _ _ ht, there_cells _ ht, ne, nv, ge, by rw [size_setCells]; exact lt⟩

/-- an 'append' to a row that is owned, whatever its room -/
theorem wpList_append_own {P : Program} (w : World) {ops : Array Oper} {rest : List Oper} {o : Oper} {a : Act} {Q : Exit → Act → World → Prop}
    (hg : o.guard = none) (s x : Operand) (t : TypeId) (hop : o.op = Op.call { callee := Callee.builtin Builtin.append, args := #[s, x], argTypes := #[t, t] })
    (base : Nat) (e : TypeId) (i : TypeInfo) (z : Value) (size bytes : Nat) (h1 : P.underlying t = some (.slice e)) (h2 : P.info? e = some i) (h3 : i.zero = some z) (h4 : i.size = size) (h5 : i.bytes = bytes) (h6 : z.cells.size = size) (h7 : 0 < size)
    (v : Value) (n : Nat) (xs : List Value) (hs : a.eval s = v) (hown : w.ownsRow base e size v n xs) (ad : Addr) (m c : Nat) (news : List Value) (hx : a.eval x = .slice (some ad) m c) (hn : news.length = m * size)
    (hc : ∀ j u, news[j]? = some u → w.cell? (ad.add j) = some u) (h1c : ∀ u ∈ news, u.oneCell' = true) (b1 : n + m ≤ maxLen) (b2 : (n + m) * bytes ≤ 140737488355328) (hb : base ≤ w.heap.size)
    (hK : ∀ v' w', w'.ownsRow base e size v' (n + m) (xs ++ news) → w.grownBy w' v.ownBlock → wpList P ops Q rest (a.put o.dst v') w') :
    wpList P ops Q (o :: rest) a w := by
  refine wpList_plain hg fun K hK' => ?_
  obtain ⟨v', w', hrun, r1, r2, _⟩ := run_append_own (P := P) w base t o.type e i z size bytes h1 h2 h3 h4 h5 h6 h7 v n xs hown ad m c news hn hc h1c b1 b2 hb
  unfold Oper.wp
  simp [execOp, hop, resolve, invoke, builtin, hs, hx, hrun, Result.andThen]
  exact hK' _ _ (hK v' w' r1 r2)

theorem round_fin {bs cs : List Z} {n m i j i2 j2 f : Nat} {k L1 L : Z} {os M : List Z} {pk : Bool} (hn : bs.length = n) (hm : cs.length = m) (hi : i ≤ n) (hj : j ≤ m) (hmore : i < n ∨ j < m) (hf : (n - i) + (m - j) ≤ f)
    (hpk1 : pk = true → i < n ∧ k = zAt bs i) (hpk2 : pk = false → j < m ∧ k = zAt cs j) (hk : pickZ (bs.drop i) (cs.drop j) = k)
    (h1 : bs.drop i2 = (bs.drop i).dropWhile (sk · k) ∧ L1 = (((bs.drop i).takeWhile (sk · k)).getLast?).getD k) (h2 : cs.drop j2 = (cs.drop j).dropWhile (sk · k) ∧ L = (((cs.drop j).takeWhile (sk · k)).getLast?).getD L1)
    (hi2 : i ≤ i2 ∧ i2 ≤ n) (hj2 : j ≤ j2 ∧ j2 ≤ m) (hE : os ++ mdl f (bs.drop i) (cs.drop j) = M) :
    ∃ f', (n - i2) + (m - j2) ≤ f' ∧ (n - i2) + (m - j2) < (n - i) + (m - j) ∧ (L.put = true → (os ++ [L]) ++ mdl f' (bs.drop i2) (cs.drop j2) = M) ∧ (L.put = false → os ++ mdl f' (bs.drop i2) (cs.drop j2) = M) := by
  obtain ⟨f', rfl⟩ : ∃ f', f = f' + 1 := ⟨f - 1, by omega⟩
  have hne : ¬ (bs.drop i = [] ∧ cs.drop j = []) := by
    rintro ⟨e1, e2⟩
    have e1 := congrArg List.length e1
    have e2 := congrArg List.length e2
    simp at e1 e2
    omega
  rw [mdl_step hne, hk] at hE
  have hL : lastZ (bs.drop i) (cs.drop j) k = L := by rw [lastZ_eq, h2.2, h1.2]
  rw [hL, ← h1.1, ← h2.1] at hE
  have hlt : (n - i2) + (m - j2) < (n - i) + (m - j) := by
    have l1 := congrArg List.length h1.1
    have l2 := congrArg List.length h2.1
    rw [List.length_drop] at l1 l2
    cases pk with
    | true =>
      obtain ⟨a1, rfl⟩ := hpk1 rfl
      have := drop_lt (xs := bs) (i := i) (by omega) (sk_self _)
      omega
    | false =>
      obtain ⟨a1, rfl⟩ := hpk2 rfl
      have := drop_lt (xs := cs) (i := j) (by omega) (sk_self _)
      omega
  refine ⟨f', by omega, hlt, fun hp => ?_, fun hp => ?_⟩
  · rw [if_pos hp] at hE
    rw [List.append_assoc]
    exact hE
  · rw [if_neg (by rw [hp]; decide)] at hE
    exact hE

set_option maxRecDepth 10000 in
set_option maxHeartbeats 8000000 in
theorem model_any (ao co : Option Addr) (b off n cap c off2 m cap2 : Nat) (bs cs : List Z) (w : World) (hao : n = 0 ∨ ao = some ⟨b, off, none⟩) (hco : m = 0 ∨ co = some ⟨c, off2, none⟩) (hn : bs.length = n) (hm : cs.length = m) (hnb : n ≤ 8192) (hmb : m ≤ 8192) (hb : ZRow w b off bs) (hc : ZRow w c off2 cs) :
    Calls Try.prog 13 #[.slice ao n cap, .slice co m cap2] w fun x w' => ∃ v, x = .returned v ∧ w'.ownsRow w.heap.size 41 21 v (mdl (n + m) bs cs).length ((mdl (n + m) bs cs).flatMap encZ) ∧ Below w.heap.size w w' := by
  have HB : Hid (ZRow w b off bs) := hb
  have HC : Hid (ZRow w c off2 cs) := hc
  have HN : Hid (bs.length = n) := hn
  have HM : Hid (cs.length = m) := hm
  obtain ⟨M, hM⟩ : ∃ M, mdl (n + m) bs cs = M := ⟨_, rfl⟩
  have HML : Hid (M.length ≤ n + m) := by rw [← hM]; exact mdl_len _ _ _
  have HE0 : Hid ([] ++ mdl (n + m) (bs.drop 0) (cs.drop 0) = M) := hM
  rw [hM]
  clear hM hb hc hn hm
  obtain ⟨i0, hi0, hz0, hz1, hz2⟩ := info_parts Try.info41
  have HZ0 : Hid _ := hz0
  clear hz0
  have hmx : Try.prog.follows .mixedOrders = true := by kernel_rfl
  have hmo0 : Hid (MO w (.slice none 0 0) [] w) := ⟨World.ownsRow_nil _ _ _ _, Below.refl _ _⟩
  go_enter Try.func13, Try.ntmps13
  go_upto_region 4 with fail
  go_loopw [5, 6, 7] (fun v x y wr => ∃ (i j f : Nat) (os : List Z), x = .int .i64 i ∧ y = .int .i64 j ∧ i ≤ n ∧ j ≤ m ∧ (n - i) + (m - j) ≤ f ∧ Hid (MO w v os wr) ∧ Hid (os ++ mdl f (bs.drop i) (cs.drop j) = M)) (fun _ x y _ => (n - (intOf x).toNat) + (m - (intOf y).toNat))
  case atStart => exact ⟨0, 0, n + m, [], rfl, rfl, Nat.zero_le _, Nat.zero_le _, by omega, hmo0, HE0⟩
  case round =>
    clear hmo0 HE0
    obtain ⟨i, j, f, os, rfl, rfl, hi, hj, hf, hMO, hE⟩ := hrel
    by_cases hmore : i < n ∨ j < m
    case neg =>
      obtain rfl : i = n := by omega
      obtain rfl : j = m := by omega
      have hos : os = M := by
        have := hE.out
        rw [List.drop_eq_nil_of_le (by rw [HN.out]; omega), List.drop_eq_nil_of_le (by rw [HM.out]; omega)] at this
        cases f <;> simpa [mdl] using this
      subst hos
      go_wp2
      go_ret
      exact ⟨_, rfl, hMO.out.own, hMO.out.below⟩
    obtain ⟨v, rfl⟩ : ∃ v, v = u5 := ⟨_, rfl⟩
    obtain ⟨pk, hpk⟩ : ∃ pk, (decide (m ≤ j) || (decide (i < n) && keyLess (zAt bs i) (zAt cs j))) = pk := ⟨_, rfl⟩
    obtain ⟨k, hk⟩ : ∃ k, (if pk = true then zAt bs i else zAt cs j) = k := ⟨_, rfl⟩
    have HPK : Hid ((decide (m ≤ j) || (decide (i < n) && keyLess (zAt bs i) (zAt cs j))) = pk) := hpk
    have HKP : Hid (pickZ (bs.drop i) (cs.drop j) = k) := by
      show _ = _
      rw [pick_at (by rw [HN.out, HM.out]; exact hmore), HN.out, HM.out, hpk, hk]
    have hpk1 : Hid (pk = true → i < n ∧ k = zAt bs i) := fun e => by
      rw [e, if_pos rfl] at hk
      refine ⟨?_, hk.symm⟩
      rw [e, Bool.or_eq_true, Bool.and_eq_true, decide_eq_true_iff, decide_eq_true_iff] at hpk
      omega
    have hpk2 : Hid (pk = false → j < m ∧ k = zAt cs j) := fun e => by
      rw [e, if_neg (by decide)] at hk
      refine ⟨?_, hk.symm⟩
      rw [e, Bool.or_eq_false_iff, decide_eq_false_iff_not] at hpk
      omega
    clear hpk hk
    go_upto_region 4 with fail
    go_cut [19] (fun t wx => t = .bool true ∧ wx = wr)
    case first =>
      by_cases hin : i < n
      · have hd2 : decide ((i : Int) < (n : Int)) = true := by simp; omega
        go_wp2
        go_meet
        exact ⟨rfl, rfl⟩
      · have hd2 : decide ((i : Int) < (n : Int)) = false := by simp; omega
        have hjm : j < m := hmore.resolve_left hin
        go_wp2
        go_meet
        exact ⟨rfl, rfl⟩
    case rest =>
    obtain ⟨rfl, rfl⟩ := hcut
    go_upto_region 6 with fail
    obtain ⟨W1, hW1⟩ : ∃ W1, W1 = wc.alloc (.cells #[.int .u64 0, .int .i64 0, .string ⟨#[]⟩, .bool false, .string ⟨#[]⟩, .string ⟨#[]⟩, .string ⟨#[]⟩, .string ⟨#[]⟩, .string ⟨#[]⟩, .string ⟨#[]⟩, .string ⟨#[]⟩, .string ⟨#[]⟩, .string ⟨#[]⟩, .string ⟨#[]⟩, .string ⟨#[]⟩, .string ⟨#[]⟩, .string ⟨#[]⟩, .int .i64 0, .int .i64 0, .int .i64 0, .int .i64 0] 41) := ⟨_, rfl⟩
    obtain ⟨K8, hK8⟩ : ∃ K8, K8 = wc.heap.size := ⟨_, rfl⟩
    have hMO1 : Hid (MO w v os W1) := by rw [hW1]; exact hMO.out.later ((Below.refl _ _).alloc (Nat.le_refl _) _)
    have hth1 : W1.there K8 0 21 := by rw [hW1, hK8]; exact there_new wc #[.int .u64 0, .int .i64 0, .string ⟨#[]⟩, .bool false, .string ⟨#[]⟩, .string ⟨#[]⟩, .string ⟨#[]⟩, .string ⟨#[]⟩, .string ⟨#[]⟩, .string ⟨#[]⟩, .string ⟨#[]⟩, .string ⟨#[]⟩, .string ⟨#[]⟩, .string ⟨#[]⟩, .string ⟨#[]⟩, .string ⟨#[]⟩, .string ⟨#[]⟩, .int .i64 0, .int .i64 0, .int .i64 0, .int .i64 0] 41
    have nv8 : Hid (v.ownBlock ≠ some K8) := by rw [hK8]; exact hMO.out.ne (Nat.le_refl _)
    have ge8 : w.heap.size ≤ K8 := by rw [hK8]; exact hMO.out.below.size
    have lt8 : K8 < W1.heap.size := by rw [hW1, hK8]; simp
    rw [← hW1, ← hK8]
    clear hW1 hK8 hMO
    go_cut [40] (fun t wx => t = .bool pk ∧ Below W1.heap.size W1 wx)
    case first =>
      by_cases hjm : j < m
      · by_cases hin : i < n
        · obtain rfl : ao = some ⟨b, off, none⟩ := hao.resolve_left (by omega)
          obtain rfl : co = some ⟨c, off2, none⟩ := hco.resolve_left (by omega)
          have hx : W1.rangeAt b (off + i * 21) (encZ (zAt bs i)) := (HB.out.later hMO1.out.below) i (by rw [HN.out]; exact hin)
          have hy : W1.rangeAt c (off2 + j * 21) (encZ (zAt cs j)) := (HC.out.later hMO1.out.below) j (by rw [HM.out]; exact hjm)
          have hkl : keyLess (zAt bs i) (zAt cs j) = pk := by
            have := HPK.out
            rw [decide_eq_false (by omega), decide_eq_true hin, Bool.false_or, Bool.true_and] at this
            exact this
          obtain ⟨x, hxx⟩ : ∃ x, zAt bs i = x := ⟨_, rfl⟩
          obtain ⟨y, hyy⟩ : ∃ y, zAt cs j = y := ⟨_, rfl⟩
          rw [hxx] at hx hkl
          rw [hyy] at hy hkl
          have hcall := fun w => keyLess_any x y w
          rw [hkl] at hcall
          unfold aggZ at hcall
          clear hxx hyy hkl
          have hiI : (i : Int) < (n : Int) := by omega
          have hjI : (j : Int) < (m : Int) := by omega
          have hd1 : ¬ m ≤ j := by omega
          refine wp_region_below hmx (by kernel_rfl) ?_
          refine wpq_val (by go_simp) (v := ?vp0) ?hyp0 (fun K hK => ?_)
          case hyp0 => (intro w _; go_simp; try (with_reducible rfl))
          go_simp
          refine hK _ ?_
          clear hK K
          refine wpq_val (by go_simp) (v := ?vp1) ?hyp1 (fun K hK => ?_)
          case hyp1 => (intro w _; go_simp; try (with_reducible rfl))
          go_simp
          refine hK _ ?_
          clear hK K
          refine wpq_val (by go_simp) (v := ?vp2) ?hyp2 (fun K hK => ?_)
          case hyp2 => (intro w _; go_simp; try (with_reducible rfl))
          go_simp
          refine hK _ ?_
          clear hK K
          refine wpq_val (by go_simp) (v := ?vp3) ?hyp3 (fun K hK => ?_)
          case hyp3 => (intro w _; go_simp; try (with_reducible rfl))
          go_simp
          refine hK _ ?_
          clear hK K
          refine wpq_val (by go_simp) (v := ?vp4) ?hyp4 (fun K hK => ?_)
          case hyp4 => (intro w _; go_simp; try (with_reducible rfl))
          go_simp
          refine hK _ ?_
          clear hK K
          refine wpq_val (by go_simp) (v := ?vp5) ?hyp5 (fun K hK => ?_)
          case hyp5 => (intro w _; go_simp; try (with_reducible rfl))
          go_simp
          refine hK _ ?_
          clear hK K
          refine wpq_val (by go_simp) (v := ?vp6) ?hyp6 (fun K hK => ?_)
          case hyp6 => (intro w _; go_simp; try (with_reducible rfl))
          go_simp
          refine hK _ ?_
          clear hK K
          refine wpq_val (by go_simp) (v := ?vp7) ?hyp7 (fun K hK => ?_)
          case hyp7 => (intro w _; go_simp; try (with_reducible rfl))
          go_simp
          refine hK _ ?_
          clear hK K
          refine wpq_val (by go_simp) (v := ?vp8) ?hyp8 (fun K hK => ?_)
          case hyp8 => (intro w _; go_simp; try (with_reducible rfl))
          go_simp
          refine hK _ ?_
          clear hK K
          refine wpq_val (by go_simp) (v := ?vp9) ?hyp9 (fun K hK => ?_)
          case hyp9 => (intro w _; go_simp; try (with_reducible rfl))
          go_simp
          refine hK _ ?_
          clear hK K
          refine wpq_val (by go_simp) (v := ?vp10) ?hyp10 (fun K hK => ?_)
          case hyp10 => (intro w _; go_simp; try (with_reducible rfl))
          go_simp
          refine hK _ ?_
          clear hK K
          refine wpq_val (by go_simp) (v := ?vp11) ?hyp11 (fun K hK => ?_)
          case hyp11 => (intro w _; go_simp; try (with_reducible rfl))
          go_simp
          refine hK _ ?_
          clear hK K
          refine wpq_val (by go_simp) (v := ?vp12) ?hyp12 (fun K hK => ?_)
          case hyp12 => (intro w _; go_simp; try (with_reducible rfl))
          go_simp
          refine hK _ ?_
          clear hK K
          refine wpq_load (by go_simp) 41 _ rfl b (off + i * 21) rfl (encZ x) _ (fun w h => range_later hx h) Try.underlying41 rfl Try.size41 (fun K hK => ?_)
          go_simp
          refine hK _ ?_
          clear hK K
          refine wpq_val (by go_simp) (v := ?vp14) ?hyp14 (fun K hK => ?_)
          case hyp14 => (intro w _; go_simp; try (with_reducible rfl))
          go_simp
          refine hK _ ?_
          clear hK K
          refine wpq_val (by go_simp) (v := ?vp15) ?hyp15 (fun K hK => ?_)
          case hyp15 => (intro w _; go_simp; try (with_reducible rfl))
          go_simp
          refine hK _ ?_
          clear hK K
          refine wpq_val (by go_simp) (v := ?vp16) ?hyp16 (fun K hK => ?_)
          case hyp16 => (intro w _; go_simp; try (with_reducible rfl))
          go_simp
          refine hK _ ?_
          clear hK K
          refine wpq_load (by go_simp) 41 _ rfl c (off2 + j * 21) rfl (encZ y) _ (fun w h => range_later hy h) Try.underlying41 rfl Try.size41 (fun K hK => ?_)
          go_simp
          refine hK _ ?_
          clear hK K
          refine wpq_call (by go_simp) (f := 31) (args := #[.agg (encZ x).toArray, .agg (encZ y).toArray]) ?hr18 (fun w' hw' => calls_below hw' (hcall w')) (fun K hK => ?_)
          case hr18 => (intro w _; go_simp; try (with_reducible rfl))
          go_simp
          refine hK _ ?_
          clear hK K
          refine wpq_val (by go_simp) (v := ?vp19) ?hyp19 (fun K hK => ?_)
          case hyp19 => (intro w _; go_simp; try (with_reducible rfl))
          go_simp
          refine hK _ ?_
          clear hK K
          refine wpq_val (by go_simp) (v := ?vp20) ?hyp20 (fun K hK => ?_)
          case hyp20 => (intro w _; go_simp; try (with_reducible rfl))
          go_simp
          refine hK _ ?_
          clear hK K
          refine wpq_nil ?_
          intro w2 hb2
          go_wp2
          go_meet
          exact ⟨rfl, hb2⟩
        · have hpf : pk = false := by
            rw [← HPK.out, decide_eq_false (by omega), decide_eq_false hin]
            rfl
          subst hpf
          have hd1 : ¬ m ≤ j := by omega
          refine wp_region_below hmx (by kernel_rfl) ?_
          refine wpq_val (by go_simp) (v := ?vq0) ?hyq0 (fun K hK => ?_)
          case hyq0 => (intro w _; go_simp; try (with_reducible rfl))
          go_simp
          refine hK _ ?_
          clear hK K
          refine wpq_val (by go_simp) (v := ?vq1) ?hyq1 (fun K hK => ?_)
          case hyq1 => (intro w _; go_simp; try (with_reducible rfl))
          go_simp
          refine hK _ ?_
          clear hK K
          refine wpq_val (by go_simp) (v := ?vq2) ?hyq2 (fun K hK => ?_)
          case hyq2 => (intro w _; go_simp; try (with_reducible rfl))
          go_simp
          refine hK _ ?_
          clear hK K
          refine wpq_val (by go_simp) (v := ?vq3) ?hyq3 (fun K hK => ?_)
          case hyq3 => (intro w _; go_simp; try (with_reducible rfl))
          go_simp
          refine hK _ ?_
          clear hK K
          refine wpq_val (by go_simp) (v := ?vq4) ?hyq4 (fun K hK => ?_)
          case hyq4 => (intro w _; go_simp; try (with_reducible rfl))
          go_simp
          refine hK _ ?_
          clear hK K
          refine wpq_val (by go_simp) (v := ?vq5) ?hyq5 (fun K hK => ?_)
          case hyq5 => (intro w _; go_simp; try (with_reducible rfl))
          go_simp
          refine hK _ ?_
          clear hK K
          refine wpq_val (by go_simp) (v := ?vq6) ?hyq6 (fun K hK => ?_)
          case hyq6 => (intro w _; go_simp; try (with_reducible rfl))
          go_simp
          refine hK _ ?_
          clear hK K
          refine wpq_val (by go_simp) (v := ?vq7) ?hyq7 (fun K hK => ?_)
          case hyq7 => (intro w _; go_simp; try (with_reducible rfl))
          go_simp
          refine hK _ ?_
          clear hK K
          refine wpq_val (by go_simp) (v := ?vq8) ?hyq8 (fun K hK => ?_)
          case hyq8 => (intro w _; go_simp; try (with_reducible rfl))
          go_simp
          refine hK _ ?_
          clear hK K
          refine wpq_val (by go_simp) (v := ?vq9) ?hyq9 (fun K hK => ?_)
          case hyq9 => (intro w _; go_simp; try (with_reducible rfl))
          go_simp
          refine hK _ ?_
          clear hK K
          refine wpq_skip (by go_simp <;> (intro h; simp [undef] at h)) (fun K hK => ?_)
          go_simp
          refine hK _ ?_
          clear hK K
          refine wpq_skip (by go_simp <;> (intro h; simp [undef] at h)) (fun K hK => ?_)
          go_simp
          refine hK _ ?_
          clear hK K
          refine wpq_skip (by go_simp <;> (intro h; simp [undef] at h)) (fun K hK => ?_)
          go_simp
          refine hK _ ?_
          clear hK K
          refine wpq_skip (by go_simp <;> (intro h; simp [undef] at h)) (fun K hK => ?_)
          go_simp
          refine hK _ ?_
          clear hK K
          refine wpq_skip (by go_simp <;> (intro h; simp [undef] at h)) (fun K hK => ?_)
          go_simp
          refine hK _ ?_
          clear hK K
          refine wpq_skip (by go_simp <;> (intro h; simp [undef] at h)) (fun K hK => ?_)
          go_simp
          refine hK _ ?_
          clear hK K
          refine wpq_skip (by go_simp <;> (intro h; simp [undef] at h)) (fun K hK => ?_)
          go_simp
          refine hK _ ?_
          clear hK K
          refine wpq_skip (by go_simp <;> (intro h; simp [undef] at h)) (fun K hK => ?_)
          go_simp
          refine hK _ ?_
          clear hK K
          refine wpq_skip (by go_simp <;> (intro h; simp [undef] at h)) (fun K hK => ?_)
          go_simp
          refine hK _ ?_
          clear hK K
          refine wpq_val (by go_simp) (v := ?vq19) ?hyq19 (fun K hK => ?_)
          case hyq19 => (intro w _; go_simp; try (with_reducible rfl))
          go_simp
          refine hK _ ?_
          clear hK K
          refine wpq_val (by go_simp) (v := ?vq20) ?hyq20 (fun K hK => ?_)
          case hyq20 => (intro w _; go_simp; try (with_reducible rfl))
          go_simp
          refine hK _ ?_
          clear hK K
          refine wpq_nil ?_
          intro w2 hb2
          go_wp2
          go_meet
          exact ⟨rfl, hb2⟩
      · have hpf : pk = true := by
          rw [← HPK.out, decide_eq_true (by omega)]
          rfl
        subst hpf
        have hd1 : m ≤ j := by omega
        refine wp_region_below hmx (by kernel_rfl) ?_
        refine wpq_val (by go_simp) (v := ?vr0) ?hyr0 (fun K hK => ?_)
        case hyr0 => (intro w _; go_simp; try (with_reducible rfl))
        go_simp
        refine hK _ ?_
        clear hK K
        refine wpq_val (by go_simp) (v := ?vr1) ?hyr1 (fun K hK => ?_)
        case hyr1 => (intro w _; go_simp; try (with_reducible rfl))
        go_simp
        refine hK _ ?_
        clear hK K
        refine wpq_val (by go_simp) (v := ?vr2) ?hyr2 (fun K hK => ?_)
        case hyr2 => (intro w _; go_simp; try (with_reducible rfl))
        go_simp
        refine hK _ ?_
        clear hK K
        refine wpq_val (by go_simp) (v := ?vr3) ?hyr3 (fun K hK => ?_)
        case hyr3 => (intro w _; go_simp; try (with_reducible rfl))
        go_simp
        refine hK _ ?_
        clear hK K
        refine wpq_val (by go_simp) (v := ?vr4) ?hyr4 (fun K hK => ?_)
        case hyr4 => (intro w _; go_simp; try (with_reducible rfl))
        go_simp
        refine hK _ ?_
        clear hK K
        refine wpq_skip (by go_simp <;> (intro h; simp [undef] at h)) (fun K hK => ?_)
        go_simp
        refine hK _ ?_
        clear hK K
        refine wpq_skip (by go_simp <;> (intro h; simp [undef] at h)) (fun K hK => ?_)
        go_simp
        refine hK _ ?_
        clear hK K
        refine wpq_skip (by go_simp <;> (intro h; simp [undef] at h)) (fun K hK => ?_)
        go_simp
        refine hK _ ?_
        clear hK K
        refine wpq_skip (by go_simp <;> (intro h; simp [undef] at h)) (fun K hK => ?_)
        go_simp
        refine hK _ ?_
        clear hK K
        refine wpq_skip (by go_simp <;> (intro h; simp [undef] at h)) (fun K hK => ?_)
        go_simp
        refine hK _ ?_
        clear hK K
        refine wpq_skip (by go_simp <;> (intro h; simp [undef] at h)) (fun K hK => ?_)
        go_simp
        refine hK _ ?_
        clear hK K
        refine wpq_skip (by go_simp <;> (intro h; simp [undef] at h)) (fun K hK => ?_)
        go_simp
        refine hK _ ?_
        clear hK K
        refine wpq_skip (by go_simp <;> (intro h; simp [undef] at h)) (fun K hK => ?_)
        go_simp
        refine hK _ ?_
        clear hK K
        refine wpq_skip (by go_simp <;> (intro h; simp [undef] at h)) (fun K hK => ?_)
        go_simp
        refine hK _ ?_
        clear hK K
        refine wpq_skip (by go_simp <;> (intro h; simp [undef] at h)) (fun K hK => ?_)
        go_simp
        refine hK _ ?_
        clear hK K
        refine wpq_skip (by go_simp <;> (intro h; simp [undef] at h)) (fun K hK => ?_)
        go_simp
        refine hK _ ?_
        clear hK K
        refine wpq_skip (by go_simp <;> (intro h; simp [undef] at h)) (fun K hK => ?_)
        go_simp
        refine hK _ ?_
        clear hK K
        refine wpq_skip (by go_simp <;> (intro h; simp [undef] at h)) (fun K hK => ?_)
        go_simp
        refine hK _ ?_
        clear hK K
        refine wpq_skip (by go_simp <;> (intro h; simp [undef] at h)) (fun K hK => ?_)
        go_simp
        refine hK _ ?_
        clear hK K
        refine wpq_skip (by go_simp <;> (intro h; simp [undef] at h)) (fun K hK => ?_)
        go_simp
        refine hK _ ?_
        clear hK K
        refine wpq_val (by go_simp) (v := ?vr20) ?hyr20 (fun K hK => ?_)
        case hyr20 => (intro w _; go_simp; try (with_reducible rfl))
        go_simp
        refine hK _ ?_
        clear hK K
        refine wpq_nil ?_
        intro w2 hb2
        go_wp2
        go_meet
        exact ⟨rfl, hb2⟩
    case rest =>
    obtain ⟨rfl, hBx⟩ := hcut
    have hMO2 : Hid (MO w v os wc) := hMO1.out.later hBx
    have hth2 : wc.there K8 0 (encZ k).length := there_below hth1 hBx lt8
    replace lt8 : K8 < wc.heap.size := by have := hBx.size; omega
    clear hMO1 hth1 hBx
    go_upto_if 40 with fail
    go_cut [] (fun wx => MA w K8 k v os wx)
    case first =>
      cases pk
      · skip
        have hlt := (hpk2.out rfl).1
        obtain rfl : co = some ⟨c, off2, none⟩ := hco.resolve_left (by omega)
        have hx : wc.rangeAt c (off2 + j * 21) (encZ k) := by
          have := (HC.out.later hMO2.out.below) j (by rw [HM.out]; exact hlt)
          rw [← (hpk2.out rfl).2] at this
          exact this
        have hltI : (j : Int) < (m : Int) := by omega
        have hMA : Hid (MA w K8 k v os (wc.setCells K8 0 (encZ k))) := MA.mk8 hMO2.out hth2 nv8 ge8 lt8
        go_upto_region 8 with fail
        go_wp2_with (first
          | (refine wpList_load_mid rfl 41 _ rfl c (off2 + j * 21) rfl (encZ k) _ hx Try.underlying41 rfl Try.size41 ?_)
          | (refine wpList_store_named rfl rfl 41 _ _ rfl K8 0 (encZ k) rfl rfl hth2 Try.size41 (encZ_one _) ?_; intro W2 hW2; rw [← hW2.out] at hMA))
        go_meet
        exact hMA.out
      · skip
        have hlt := (hpk1.out rfl).1
        obtain rfl : ao = some ⟨b, off, none⟩ := hao.resolve_left (by omega)
        have hx : wc.rangeAt b (off + i * 21) (encZ k) := by
          have := (HB.out.later hMO2.out.below) i (by rw [HN.out]; exact hlt)
          rw [← (hpk1.out rfl).2] at this
          exact this
        have hltI : (i : Int) < (n : Int) := by omega
        have hMA : Hid (MA w K8 k v os (wc.setCells K8 0 (encZ k))) := MA.mk8 hMO2.out hth2 nv8 ge8 lt8
        go_upto_region 7 with fail
        go_wp2_with (first
          | (refine wpList_load_mid rfl 41 _ rfl b (off + i * 21) rfl (encZ k) _ hx Try.underlying41 rfl Try.size41 ?_)
          | (refine wpList_store_named rfl rfl 41 _ _ rfl K8 0 (encZ k) rfl rfl hth2 Try.size41 (encZ_one _) ?_; intro W2 hW2; rw [← hW2.out] at hMA))
        go_meet
        exact hMA.out
    case rest =>
    have hMA : Hid (MA w K8 k v os wc) := hcut
    clear hcut hMO2 hth2 lt8
    have hr8 : wc.rangeAt K8 0 (encZ k) := hMA.out.k8
    have hMA1 : Hid (MA w K8 k v os (wc.alloc (.cells #[.int .u64 0, .int .i64 0, .string ⟨#[]⟩, .bool false, .string ⟨#[]⟩, .string ⟨#[]⟩, .string ⟨#[]⟩, .string ⟨#[]⟩, .string ⟨#[]⟩, .string ⟨#[]⟩, .string ⟨#[]⟩, .string ⟨#[]⟩, .string ⟨#[]⟩, .string ⟨#[]⟩, .string ⟨#[]⟩, .string ⟨#[]⟩, .string ⟨#[]⟩, .int .i64 0, .int .i64 0, .int .i64 0, .int .i64 0] 41))) := hMA.out.later ((Below.refl _ _).alloc (Nat.le_refl _) _)
    have hth9 : (wc.alloc (.cells #[.int .u64 0, .int .i64 0, .string ⟨#[]⟩, .bool false, .string ⟨#[]⟩, .string ⟨#[]⟩, .string ⟨#[]⟩, .string ⟨#[]⟩, .string ⟨#[]⟩, .string ⟨#[]⟩, .string ⟨#[]⟩, .string ⟨#[]⟩, .string ⟨#[]⟩, .string ⟨#[]⟩, .string ⟨#[]⟩, .string ⟨#[]⟩, .string ⟨#[]⟩, .int .i64 0, .int .i64 0, .int .i64 0, .int .i64 0] 41)).there wc.heap.size 0 (encZ k).length := there_new wc #[.int .u64 0, .int .i64 0, .string ⟨#[]⟩, .bool false, .string ⟨#[]⟩, .string ⟨#[]⟩, .string ⟨#[]⟩, .string ⟨#[]⟩, .string ⟨#[]⟩, .string ⟨#[]⟩, .string ⟨#[]⟩, .string ⟨#[]⟩, .string ⟨#[]⟩, .string ⟨#[]⟩, .string ⟨#[]⟩, .string ⟨#[]⟩, .string ⟨#[]⟩, .int .i64 0, .int .i64 0, .int .i64 0, .int .i64 0] 41
    have hMB : Hid (MB w K8 wc.heap.size k k v os ((wc.alloc (.cells #[.int .u64 0, .int .i64 0, .string ⟨#[]⟩, .bool false, .string ⟨#[]⟩, .string ⟨#[]⟩, .string ⟨#[]⟩, .string ⟨#[]⟩, .string ⟨#[]⟩, .string ⟨#[]⟩, .string ⟨#[]⟩, .string ⟨#[]⟩, .string ⟨#[]⟩, .string ⟨#[]⟩, .string ⟨#[]⟩, .string ⟨#[]⟩, .string ⟨#[]⟩, .int .i64 0, .int .i64 0, .int .i64 0, .int .i64 0] 41)).setCells wc.heap.size 0 (encZ k))) :=
      MB.mk9 hMA1.out hth9 (by have := hMA.out.lt; omega) (hMA.out.mo.ne (Nat.le_refl _)) hMA.out.mo.below.size (by simp)
    go_upto_region 9 with fail
    go_upto_region 10 with (first
      | (refine wpList_load_mid rfl 41 _ rfl K8 0 rfl (encZ k) _ hr8 Try.underlying41 rfl Try.size41 ?_)
      | (refine wpList_store_named rfl rfl 41 _ _ rfl wc.heap.size 0 (encZ k) rfl rfl hth9 Try.size41 (encZ_one _) ?_; intro W2 hW2; rw [← hW2.out] at hMB))
    obtain ⟨K9, hK9⟩ : ∃ K9, K9 = wc.heap.size := ⟨_, rfl⟩
    rw [← hK9] at hMB ⊢
    clear hK9 hMA hMA1 hth9 hr8 hW2
    go_loopw [6] (fun c wr => ∃ (q : Nat) (l : Z), c = .int .i64 q ∧ q ≤ n ∧ Hid (TW k bs i q k l) ∧ Hid (MB w K8 K9 k l v os wr)) (fun c _ => n - (intOf c).toNat)
    case atStart => exact ⟨i, k, rfl, by omega, TW.start (by rw [HN.out]; omega), hMB⟩
    case round =>
      clear hMB
      obtain ⟨q, l, rfl, hq, hTW, hMB⟩ := hrel
      obtain ⟨r, hr⟩ : ∃ r, (decide (q < n) && sk (zAt bs q) k) = r := ⟨_, rfl⟩
      have HRR : Hid ((decide (q < n) && sk (zAt bs q) k) = r) := hr
      clear hr
      go_upto_region 10 with fail
      go_cut [61] (fun t wx => t = .bool r ∧ MB w K8 K9 k l v os wx)
      case first =>
        by_cases hlt : q < n
        · obtain rfl : ao = some ⟨b, off, none⟩ := hao.resolve_left (by omega)
          have hx : wr.rangeAt b (off + q * 21) (encZ (zAt bs q)) := (HB.out.later hMB.out.ma.mo.below) q (by rw [HN.out]; exact hlt)
          have hy : wr.rangeAt K8 0 (encZ k) := hMB.out.ma.k8
          obtain ⟨x, hxx⟩ : ∃ x, zAt bs q = x := ⟨_, rfl⟩
          rw [hxx] at hx
          have hsk : (x.hash == k.hash && x.id.toList == k.id.toList) = r := by
            have := HRR.out
            rw [hxx, decide_eq_true hlt, Bool.true_and] at this
            exact this
          have hcall := fun w => sameKey_any x k w
          rw [hsk] at hcall
          unfold aggZ at hcall
          clear hxx hsk
          have hqI : (q : Int) < (n : Int) := by omega
          have hdI : decide ((q : Int) < (n : Int)) = true := by simp; omega
          refine wp_region_below hmx (by kernel_rfl) ?_
          refine wpq_val (by go_simp) (v := ?va0) ?hya0 (fun K hK => ?_)
          case hya0 => (intro w _; go_simp; try (with_reducible rfl))
          go_simp
          refine hK _ ?_
          clear hK K
          refine wpq_val (by go_simp) (v := ?va1) ?hya1 (fun K hK => ?_)
          case hya1 => (intro w _; go_simp; try (with_reducible rfl))
          go_simp
          refine hK _ ?_
          clear hK K
          refine wpq_val (by go_simp) (v := ?va2) ?hya2 (fun K hK => ?_)
          case hya2 => (intro w _; go_simp; try (with_reducible rfl))
          go_simp
          refine hK _ ?_
          clear hK K
          refine wpq_val (by go_simp) (v := ?va3) ?hya3 (fun K hK => ?_)
          case hya3 => (intro w _; go_simp; try (with_reducible rfl))
          go_simp
          refine hK _ ?_
          clear hK K
          refine wpq_val (by go_simp) (v := ?va4) ?hya4 (fun K hK => ?_)
          case hya4 => (intro w _; go_simp; try (with_reducible rfl))
          go_simp
          refine hK _ ?_
          clear hK K
          refine wpq_val (by go_simp) (v := ?va5) ?hya5 (fun K hK => ?_)
          case hya5 => (intro w _; go_simp; try (with_reducible rfl))
          go_simp
          refine hK _ ?_
          clear hK K
          refine wpq_val (by go_simp) (v := ?va6) ?hya6 (fun K hK => ?_)
          case hya6 => (intro w _; go_simp; try (with_reducible rfl))
          go_simp
          refine hK _ ?_
          clear hK K
          refine wpq_val (by go_simp) (v := ?va7) ?hya7 (fun K hK => ?_)
          case hya7 => (intro w _; go_simp; try (with_reducible rfl))
          go_simp
          refine hK _ ?_
          clear hK K
          refine wpq_load (by go_simp) 41 _ rfl b (off + q * 21) rfl (encZ x) _ (fun w h => range_later hx h) Try.underlying41 rfl Try.size41 (fun K hK => ?_)
          go_simp
          refine hK _ ?_
          clear hK K
          refine wpq_load (by go_simp) 41 _ rfl K8 (0) rfl (encZ k) _ (fun w h => range_later hy h) Try.underlying41 rfl Try.size41 (fun K hK => ?_)
          go_simp
          refine hK _ ?_
          clear hK K
          refine wpq_call (by go_simp) (f := 32) (args := #[.agg (encZ x).toArray, .agg (encZ k).toArray]) ?hr10 (fun w' hw' => calls_below hw' (hcall w')) (fun K hK => ?_)
          case hr10 => (intro w _; go_simp; try (with_reducible rfl))
          go_simp
          refine hK _ ?_
          clear hK K
          refine wpq_val (by go_simp) (v := ?va11) ?hya11 (fun K hK => ?_)
          case hya11 => (intro w _; go_simp; try (with_reducible rfl))
          go_simp
          refine hK _ ?_
          clear hK K
          refine wpq_nil ?_
          intro w2 hb2
          go_wp2
          go_meet
          exact ⟨rfl, hMB.out.later hb2⟩
        · have hrf : r = false := by rw [← HRR.out, decide_eq_false hlt]; rfl
          subst hrf
          have hdI : decide ((q : Int) < (n : Int)) = false := by simp; omega
          refine wp_region_below hmx (by kernel_rfl) ?_
          refine wpq_val (by go_simp) (v := ?van0) ?hyan0 (fun K hK => ?_)
          case hyan0 => (intro w _; go_simp; try (with_reducible rfl))
          go_simp
          refine hK _ ?_
          clear hK K
          refine wpq_val (by go_simp) (v := ?van1) ?hyan1 (fun K hK => ?_)
          case hyan1 => (intro w _; go_simp; try (with_reducible rfl))
          go_simp
          refine hK _ ?_
          clear hK K
          refine wpq_val (by go_simp) (v := ?van2) ?hyan2 (fun K hK => ?_)
          case hyan2 => (intro w _; go_simp; try (with_reducible rfl))
          go_simp
          refine hK _ ?_
          clear hK K
          refine wpq_val (by go_simp) (v := ?van3) ?hyan3 (fun K hK => ?_)
          case hyan3 => (intro w _; go_simp; try (with_reducible rfl))
          go_simp
          refine hK _ ?_
          clear hK K
          refine wpq_val (by go_simp) (v := ?van4) ?hyan4 (fun K hK => ?_)
          case hyan4 => (intro w _; go_simp; try (with_reducible rfl))
          go_simp
          refine hK _ ?_
          clear hK K
          refine wpq_skip (by go_simp <;> (intro h; simp [undef] at h)) (fun K hK => ?_)
          go_simp
          refine hK _ ?_
          clear hK K
          refine wpq_skip (by go_simp <;> (intro h; simp [undef] at h)) (fun K hK => ?_)
          go_simp
          refine hK _ ?_
          clear hK K
          refine wpq_skip (by go_simp <;> (intro h; simp [undef] at h)) (fun K hK => ?_)
          go_simp
          refine hK _ ?_
          clear hK K
          refine wpq_skip (by go_simp <;> (intro h; simp [undef] at h)) (fun K hK => ?_)
          go_simp
          refine hK _ ?_
          clear hK K
          refine wpq_skip (by go_simp <;> (intro h; simp [undef] at h)) (fun K hK => ?_)
          go_simp
          refine hK _ ?_
          clear hK K
          refine wpq_skip (by go_simp <;> (intro h; simp [undef] at h)) (fun K hK => ?_)
          go_simp
          refine hK _ ?_
          clear hK K
          refine wpq_val (by go_simp) (v := ?van11) ?hyan11 (fun K hK => ?_)
          case hyan11 => (intro w _; go_simp; try (with_reducible rfl))
          go_simp
          refine hK _ ?_
          clear hK K
          refine wpq_nil ?_
          intro w2 hb2
          go_wp2
          go_meet
          exact ⟨rfl, hMB.out.later hb2⟩
      case rest =>
      clear hMB
      obtain ⟨rfl, hMB0⟩ := hcut
      have hMB : Hid (MB w K8 K9 k l v os wc) := hMB0
      clear hMB0
      cases r
      · have hfin : Hid (bs.drop q = (bs.drop i).dropWhile (sk · k) ∧ l = (((bs.drop i).takeWhile (sk · k)).getLast?).getD k) := hTW.out.fin (fun hlt => by
          have := HRR.out
          rw [decide_eq_true (by rw [HN.out] at hlt; exact hlt), Bool.true_and] at this
          exact this)
        obtain ⟨L1, rfl⟩ : ∃ L1, L1 = l := ⟨_, rfl⟩
        obtain ⟨i2, rfl⟩ : ∃ i2, i2 = q := ⟨_, rfl⟩
        have hi2 : i ≤ i2 ∧ i2 ≤ n := ⟨hTW.out.le.1, hq⟩
        have hfin1 := hfin
        clear hfin hTW HRR hq
        go_upto_region 13 with fail
        go_loopw [7] (fun c wr => ∃ (q : Nat) (l : Z), c = .int .i64 q ∧ q ≤ m ∧ Hid (TW k cs j q L1 l) ∧ Hid (MB w K8 K9 k l v os wr)) (fun c _ => m - (intOf c).toNat)
        case atStart => exact ⟨j, L1, rfl, by omega, TW.start (by rw [HM.out]; omega), hMB⟩
        case round =>
          clear hMB
          obtain ⟨q, l, rfl, hq, hTW, hMB⟩ := hrel
          obtain ⟨r, hr⟩ : ∃ r, (decide (q < m) && sk (zAt cs q) k) = r := ⟨_, rfl⟩
          have HRR : Hid ((decide (q < m) && sk (zAt cs q) k) = r) := hr
          clear hr
          go_upto_region 13 with fail
          go_cut [79] (fun t wx => t = .bool r ∧ MB w K8 K9 k l v os wx)
          case first =>
            by_cases hlt : q < m
            · obtain rfl : co = some ⟨c, off2, none⟩ := hco.resolve_left (by omega)
              have hx : wr.rangeAt c (off2 + q * 21) (encZ (zAt cs q)) := (HC.out.later hMB.out.ma.mo.below) q (by rw [HM.out]; exact hlt)
              have hy : wr.rangeAt K8 0 (encZ k) := hMB.out.ma.k8
              obtain ⟨x, hxx⟩ : ∃ x, zAt cs q = x := ⟨_, rfl⟩
              rw [hxx] at hx
              have hsk : (x.hash == k.hash && x.id.toList == k.id.toList) = r := by
                have := HRR.out
                rw [hxx, decide_eq_true hlt, Bool.true_and] at this
                exact this
              have hcall := fun w => sameKey_any x k w
              rw [hsk] at hcall
              unfold aggZ at hcall
              clear hxx hsk
              have hqI : (q : Int) < (m : Int) := by omega
              have hdI : decide ((q : Int) < (m : Int)) = true := by simp; omega
              refine wp_region_below hmx (by kernel_rfl) ?_
              refine wpq_val (by go_simp) (v := ?vb0) ?hyb0 (fun K hK => ?_)
              case hyb0 => (intro w _; go_simp; try (with_reducible rfl))
              go_simp
              refine hK _ ?_
              clear hK K
              refine wpq_val (by go_simp) (v := ?vb1) ?hyb1 (fun K hK => ?_)
              case hyb1 => (intro w _; go_simp; try (with_reducible rfl))
              go_simp
              refine hK _ ?_
              clear hK K
              refine wpq_val (by go_simp) (v := ?vb2) ?hyb2 (fun K hK => ?_)
              case hyb2 => (intro w _; go_simp; try (with_reducible rfl))
              go_simp
              refine hK _ ?_
              clear hK K
              refine wpq_val (by go_simp) (v := ?vb3) ?hyb3 (fun K hK => ?_)
              case hyb3 => (intro w _; go_simp; try (with_reducible rfl))
              go_simp
              refine hK _ ?_
              clear hK K
              refine wpq_val (by go_simp) (v := ?vb4) ?hyb4 (fun K hK => ?_)
              case hyb4 => (intro w _; go_simp; try (with_reducible rfl))
              go_simp
              refine hK _ ?_
              clear hK K
              refine wpq_val (by go_simp) (v := ?vb5) ?hyb5 (fun K hK => ?_)
              case hyb5 => (intro w _; go_simp; try (with_reducible rfl))
              go_simp
              refine hK _ ?_
              clear hK K
              refine wpq_val (by go_simp) (v := ?vb6) ?hyb6 (fun K hK => ?_)
              case hyb6 => (intro w _; go_simp; try (with_reducible rfl))
              go_simp
              refine hK _ ?_
              clear hK K
              refine wpq_val (by go_simp) (v := ?vb7) ?hyb7 (fun K hK => ?_)
              case hyb7 => (intro w _; go_simp; try (with_reducible rfl))
              go_simp
              refine hK _ ?_
              clear hK K
              refine wpq_load (by go_simp) 41 _ rfl c (off2 + q * 21) rfl (encZ x) _ (fun w h => range_later hx h) Try.underlying41 rfl Try.size41 (fun K hK => ?_)
              go_simp
              refine hK _ ?_
              clear hK K
              refine wpq_load (by go_simp) 41 _ rfl K8 (0) rfl (encZ k) _ (fun w h => range_later hy h) Try.underlying41 rfl Try.size41 (fun K hK => ?_)
              go_simp
              refine hK _ ?_
              clear hK K
              refine wpq_call (by go_simp) (f := 32) (args := #[.agg (encZ x).toArray, .agg (encZ k).toArray]) ?hr10 (fun w' hw' => calls_below hw' (hcall w')) (fun K hK => ?_)
              case hr10 => (intro w _; go_simp; try (with_reducible rfl))
              go_simp
              refine hK _ ?_
              clear hK K
              refine wpq_val (by go_simp) (v := ?vb11) ?hyb11 (fun K hK => ?_)
              case hyb11 => (intro w _; go_simp; try (with_reducible rfl))
              go_simp
              refine hK _ ?_
              clear hK K
              refine wpq_nil ?_
              intro w2 hb2
              go_wp2
              go_meet
              exact ⟨rfl, hMB.out.later hb2⟩
            · have hrf : r = false := by rw [← HRR.out, decide_eq_false hlt]; rfl
              subst hrf
              have hdI : decide ((q : Int) < (m : Int)) = false := by simp; omega
              refine wp_region_below hmx (by kernel_rfl) ?_
              refine wpq_val (by go_simp) (v := ?vbn0) ?hybn0 (fun K hK => ?_)
              case hybn0 => (intro w _; go_simp; try (with_reducible rfl))
              go_simp
              refine hK _ ?_
              clear hK K
              refine wpq_val (by go_simp) (v := ?vbn1) ?hybn1 (fun K hK => ?_)
              case hybn1 => (intro w _; go_simp; try (with_reducible rfl))
              go_simp
              refine hK _ ?_
              clear hK K
              refine wpq_val (by go_simp) (v := ?vbn2) ?hybn2 (fun K hK => ?_)
              case hybn2 => (intro w _; go_simp; try (with_reducible rfl))
              go_simp
              refine hK _ ?_
              clear hK K
              refine wpq_val (by go_simp) (v := ?vbn3) ?hybn3 (fun K hK => ?_)
              case hybn3 => (intro w _; go_simp; try (with_reducible rfl))
              go_simp
              refine hK _ ?_
              clear hK K
              refine wpq_val (by go_simp) (v := ?vbn4) ?hybn4 (fun K hK => ?_)
              case hybn4 => (intro w _; go_simp; try (with_reducible rfl))
              go_simp
              refine hK _ ?_
              clear hK K
              refine wpq_skip (by go_simp <;> (intro h; simp [undef] at h)) (fun K hK => ?_)
              go_simp
              refine hK _ ?_
              clear hK K
              refine wpq_skip (by go_simp <;> (intro h; simp [undef] at h)) (fun K hK => ?_)
              go_simp
              refine hK _ ?_
              clear hK K
              refine wpq_skip (by go_simp <;> (intro h; simp [undef] at h)) (fun K hK => ?_)
              go_simp
              refine hK _ ?_
              clear hK K
              refine wpq_skip (by go_simp <;> (intro h; simp [undef] at h)) (fun K hK => ?_)
              go_simp
              refine hK _ ?_
              clear hK K
              refine wpq_skip (by go_simp <;> (intro h; simp [undef] at h)) (fun K hK => ?_)
              go_simp
              refine hK _ ?_
              clear hK K
              refine wpq_skip (by go_simp <;> (intro h; simp [undef] at h)) (fun K hK => ?_)
              go_simp
              refine hK _ ?_
              clear hK K
              refine wpq_val (by go_simp) (v := ?vbn11) ?hybn11 (fun K hK => ?_)
              case hybn11 => (intro w _; go_simp; try (with_reducible rfl))
              go_simp
              refine hK _ ?_
              clear hK K
              refine wpq_nil ?_
              intro w2 hb2
              go_wp2
              go_meet
              exact ⟨rfl, hMB.out.later hb2⟩
          case rest =>
          clear hMB
          obtain ⟨rfl, hMB0⟩ := hcut
          have hMB : Hid (MB w K8 K9 k l v os wc) := hMB0
          clear hMB0
          cases r
          · have hfin : Hid (cs.drop q = (cs.drop j).dropWhile (sk · k) ∧ l = (((cs.drop j).takeWhile (sk · k)).getLast?).getD L1) := hTW.out.fin (fun hlt => by
              have := HRR.out
              rw [decide_eq_true (by rw [HM.out] at hlt; exact hlt), Bool.true_and] at this
              exact this)
            obtain ⟨L, rfl⟩ : ∃ L, L = l := ⟨_, rfl⟩
            obtain ⟨j2, rfl⟩ : ∃ j2, j2 = q := ⟨_, rfl⟩
            have hj2 : j ≤ j2 ∧ j2 ≤ m := ⟨hTW.out.le.1, hq⟩
            obtain ⟨f', hf1, hf2, hE1, hE2⟩ := round_fin HN.out HM.out hi hj hmore hf hpk1.out hpk2.out HKP.out hfin1.out hfin.out hi2 hj2 hE.out
            have HE1 : Hid (L.put = true → (os ++ [L]) ++ mdl f' (bs.drop i2) (cs.drop j2) = M) := hE1
            have HE2 : Hid (L.put = false → os ++ mdl f' (bs.drop i2) (cs.drop j2) = M) := hE2
            have hol : os.length ≤ n + m := by
              have h1 := congrArg List.length hE.out
              have h2 := HML.out
              rw [List.length_append] at h1
              omega
            have c3 : wc.cell? ⟨K9, 3, none⟩ = some (.bool L.put) := by
              have := hMB.out.k9 3 _ rfl
              rwa [Nat.zero_add] at this
            have hr9 : wc.rangeAt K9 0 (encZ L) := hMB.out.k9
            clear hE1 hE2 hTW hfin HRR
            cases hp : L.put
            · rw [hp] at c3
              have hMO9 : Hid (MO w v os wc) := hMB.out.ma.mo
              have hE9 : Hid (os ++ mdl f' (bs.drop i2) (cs.drop j2) = M) := HE2.out hp
              go_wp2
              go_roundw
              case rel => exact ⟨i2, j2, f', os, rfl, rfl, hi2.2, hj2.2, hf1, hMO9, hE9⟩
              case measure => simp [intOf]; omega
            · rw [hp] at c3
              have hE9 : Hid ((os ++ [L]) ++ mdl f' (bs.drop i2) (cs.drop j2) = M) := HE1.out hp
              have hMO8 : Hid (MO w v os (wc.alloc (.cells (encZ L).toArray 41))) := hMB.out.ma.mo.later ((Below.refl _ _).alloc (Nat.le_refl _) _)
              have hbx : Hid ((wc.alloc (.cells (encZ L).toArray 41)).heap[wc.heap.size]? = some (.cells (encZ L).toArray 41)) := heap_alloc_new _ _
              go_upto_region 17 with fail
              go_wp2_with (first
                | (refine wpList_load_mid rfl 41 _ rfl K9 0 rfl (encZ L) _ hr9 Try.underlying41 rfl Try.size41 ?_)
                | (refine wpList_build1 Try.underlying22 Try.info41 (by decide) (by decide) rfl _ rfl (encZ L) rfl rfl ?_)
                | (at_builtin; refine wpList_append_own _ rfl _ _ 22 rfl w.heap.size 41 i0 _ 21 280 Try.underlying22 hi0 HZ0.out hz1 hz2 rfl (by decide) v os.length (os.flatMap encZ) rfl hMO8.out.own ⟨wc.heap.size, 0, none⟩ 1 1 (encZ L) rfl rfl ?c1 (encZ_one L) ?c2 ?c3 hMO8.out.below.size ?_; rotate_right; intro v9 w9 hown9 hgr9; have hMO9 : Hid (MO w v9 (os ++ [L]) w9) := ⟨(by rw [List.length_append, List.flatMap_append]; simpa using hown9), hMO8.out.below.grown hgr9 hMO8.out.below.size (fun k hk => (hMO8.out.own.lt k hk).1)⟩; clear hown9 hgr9))
              case c1 =>
                intro j u hj
                rw [Addr.add_mid, Lib.cell_of_heap hbx.out, Nat.zero_add, ← hj]
                simp
              case c2 => unfold maxLen; omega
              case c3 => omega
              go_roundw
              case rel => exact ⟨i2, j2, f', os ++ [L], rfl, rfl, hi2.2, hj2.2, hf1, hMO9, hE9⟩
              case measure => simp [intOf]; omega
          · have hlt : q < m := by
              have := HRR.out
              rw [Bool.and_eq_true, decide_eq_true_iff] at this
              exact this.1
            have hsk : sk (zAt cs q) k = true := by
              have := HRR.out
              rw [Bool.and_eq_true] at this
              exact this.2
            obtain rfl : co = some ⟨c, off2, none⟩ := hco.resolve_left (by omega)
            have hx : wc.rangeAt c (off2 + q * 21) (encZ (zAt cs q)) := (HC.out.later hMB.out.ma.mo.below) q (by rw [HM.out]; exact hlt)
            have hTW2 : Hid (TW k cs j (q + 1) L1 (zAt cs q)) := hTW.out.step (by rw [HM.out]; exact hlt) hsk
            have hMB2 : Hid (MB w K8 K9 k (zAt cs q) v os (wc.setCells K9 0 (encZ (zAt cs q)))) := hMB.out.set _
            have hth : wc.there K9 0 (encZ (zAt cs q)).length := hMB.out.t9
            obtain ⟨x, hxx⟩ : ∃ x, zAt cs q = x := ⟨_, rfl⟩
            rw [hxx] at hx hTW2 hMB2 hth
            have hqI : (q : Int) < (m : Int) := by omega
            clear hxx hsk
            go_upto_region 14 with fail
            go_upto_region 15 with (first
              | (refine wpList_load_mid rfl 41 _ rfl c (off2 + q * 21) rfl (encZ x) _ hx Try.underlying41 rfl Try.size41 ?_)
              | (refine wpList_store_named rfl rfl 41 _ _ rfl K9 0 (encZ x) rfl rfl hth Try.size41 (encZ_one _) ?_; intro W2 hW2; rw [← hW2.out] at hMB2))
            go_wp2
            go_roundw
            case rel => exact ⟨q + 1, x, by go_num, hlt, hTW2, hMB2⟩
            case measure => simp [intOf]; omega
      · have hlt : q < n := by
          have := HRR.out
          rw [Bool.and_eq_true, decide_eq_true_iff] at this
          exact this.1
        have hsk : sk (zAt bs q) k = true := by
          have := HRR.out
          rw [Bool.and_eq_true] at this
          exact this.2
        obtain rfl : ao = some ⟨b, off, none⟩ := hao.resolve_left (by omega)
        have hx : wc.rangeAt b (off + q * 21) (encZ (zAt bs q)) := (HB.out.later hMB.out.ma.mo.below) q (by rw [HN.out]; exact hlt)
        have hTW2 : Hid (TW k bs i (q + 1) k (zAt bs q)) := hTW.out.step (by rw [HN.out]; exact hlt) hsk
        have hMB2 : Hid (MB w K8 K9 k (zAt bs q) v os (wc.setCells K9 0 (encZ (zAt bs q)))) := hMB.out.set _
        have hth : wc.there K9 0 (encZ (zAt bs q)).length := hMB.out.t9
        obtain ⟨x, hxx⟩ : ∃ x, zAt bs q = x := ⟨_, rfl⟩
        rw [hxx] at hx hTW2 hMB2 hth
        have hqI : (q : Int) < (n : Int) := by omega
        clear hxx hsk
        go_upto_region 11 with fail
        go_upto_region 12 with (first
          | (refine wpList_load_mid rfl 41 _ rfl b (off + q * 21) rfl (encZ x) _ hx Try.underlying41 rfl Try.size41 ?_)
          | (refine wpList_store_named rfl rfl 41 _ _ rfl K9 0 (encZ x) rfl rfl hth Try.size41 (encZ_one _) ?_; intro W2 hW2; rw [← hW2.out] at hMB2))
        go_wp2
        go_roundw
        case rel => exact ⟨q + 1, x, by go_num, hlt, hTW2, hMB2⟩
        case measure => simp [intOf]; omega
end Go.Proofs.Qxb6603644a
