/-
  SORTING CHANGES: the shelf's slices.SortFunc laid at this dump (as its tools wrote it), strings.Compare, and the walk of change.compare (42).
-/
import Derived.Shelf.SlSortCmp.WholeK
import Derived.Ground.SlsfProg
import Derived.Shelf.Small.Strs
import Derived.Test.Qxb6603644aEach
import Derived.Test.Qxb6603644aKey
namespace Go.Proofs
open Go.Shelf
def Try.sortC_ren : Go.Shelf.Ren := ⟨fun | 6 => 41 | 15 => 48 | 14 => 47 | 28 => 68 | 29 => 69 | 20 => 60 | 21 => 61 | 22 => 62 | 23 => 63 | 24 => 64 | 25 => 65 | 26 => 66 | 27 => 67 | 46 => 76 | 47 => 77 | 48 => 78 | 49 => 79 | 50 => 80 | 57 => 84 | n => n, fun | 22 => 28 | 24 => 56 | 25 => 85 | 3 => 3 | 39 => 73 | 0 => 0 | 53 => 129 | 55 => 35 | 4 => 4 | 46 => 123 | 45 => 122 | 50 => 37 | 5 => 5 | 9 => 9 | 66 => 136 | 70 => 140 | 76 => 145 | 77 => 146 | n => n, fun | n => n⟩
set_option maxRecDepth 100000 in
theorem Try.sortC : Go.Proofs.SlLaysF0.n6 Try.prog Try.sortC_ren := {
  mixed := by kernel_rfl
  f6 := ⟨Try.f41.name, by decide, Try.func41.trans (congrArg some (by kernel_rfl))⟩
  f14 := ⟨Try.f47.name, by decide, Try.func47.trans (congrArg some (by kernel_rfl))⟩
  f15 := Try.func48.trans (congrArg some (by kernel_rfl))
  f20 := ⟨Try.f60.name, by decide, Try.func60.trans (congrArg some (by kernel_rfl))⟩
  f21 := ⟨Try.f61.name, by decide, Try.func61.trans (congrArg some (by kernel_rfl))⟩
  f22 := ⟨Try.f62.name, by decide, Try.func62.trans (congrArg some (by kernel_rfl))⟩
  f23 := ⟨Try.f63.name, by decide, Try.func63.trans (congrArg some (by kernel_rfl))⟩
  f24 := ⟨Try.f64.name, by decide, Try.func64.trans (congrArg some (by kernel_rfl))⟩
  f25 := ⟨Try.f65.name, by decide, Try.func65.trans (congrArg some (by kernel_rfl))⟩
  f26 := ⟨Try.f66.name, by decide, Try.func66.trans (congrArg some (by kernel_rfl))⟩
  f27 := ⟨Try.f67.name, by decide, Try.func67.trans (congrArg some (by kernel_rfl))⟩
  f28 := Try.func68.trans (congrArg some (by kernel_rfl))
  f29 := Try.func69.trans (congrArg some (by kernel_rfl))
  f46 := ⟨Try.f76.name, by decide, Try.func76.trans (congrArg some (by kernel_rfl))⟩
  f47 := Try.func77.trans (congrArg some (by kernel_rfl))
  f48 := Try.func78.trans (congrArg some (by kernel_rfl))
  f49 := ⟨Try.f79.name, by decide, Try.func79.trans (congrArg some (by kernel_rfl))⟩
  f50 := ⟨Try.f80.name, by decide, Try.func80.trans (congrArg some (by kernel_rfl))⟩
  f57 := ⟨Try.f84.name, by decide, Try.func84.trans (congrArg some (by kernel_rfl))⟩
  t0 := Try.underlying0
  a0 := Try.isAgg0
  z0 := Try.sizeOf0
  v0 := Try.zeroValue0
  t3 := Try.underlying3
  a3 := Try.isAgg3
  z3 := Try.sizeOf3
  v3 := Try.zeroValue3
  t4 := Try.underlying4
  a4 := Try.isAgg4
  z4 := Try.sizeOf4
  v4 := Try.zeroValue4
  t5 := Try.underlying5
  a5 := Try.isAgg5
  z5 := Try.sizeOf5
  v5 := Try.zeroValue5
  t9 := Try.underlying9
  a9 := Try.isAgg9
  z9 := Try.sizeOf9
  v9 := Try.zeroValue9
  t22 := Try.underlying28
  a22 := Try.isAgg28
  z22 := Try.sizeOf28
  v22 := Try.zeroValue28
  t25 := Try.underlying85
  a25 := Try.isAgg85
  z25 := Try.sizeOf85
  v25 := Try.zeroValue85
  t39 := Try.underlying73
  a39 := Try.isAgg73
  z39 := Try.sizeOf73
  v39 := Try.zeroValue73
  t45 := Try.underlying122
  a45 := Try.isAgg122
  z45 := Try.sizeOf122
  v45 := Try.zeroValue122
  t46 := Try.underlying123
  a46 := Try.isAgg123
  z46 := Try.sizeOf123
  v46 := Try.zeroValue123
  t50 := Try.underlying37
  a50 := Try.isAgg37
  z50 := Try.sizeOf37
  v50 := Try.zeroValue37
  t53 := Try.underlying129
  a53 := Try.isAgg129
  z53 := Try.sizeOf129
  v53 := Try.zeroValue129
  t55 := Try.underlying35
  a55 := Try.isAgg35
  z55 := Try.sizeOf35
  v55 := Try.zeroValue35
  t66 := Try.underlying136
  a66 := Try.isAgg136
  z66 := Try.sizeOf136
  v66 := Try.zeroValue136
  t70 := Try.underlying140
  a70 := Try.isAgg140
  z70 := Try.sizeOf140
  v70 := Try.zeroValue140
  t76 := Try.underlying145
  a76 := Try.isAgg145
  z76 := Try.sizeOf145
  v76 := Try.zeroValue145
  t77 := Try.underlying146
  a77 := Try.isAgg146
  z77 := Try.sizeOf146
  v77 := Try.zeroValue146 }
def Try.lays106_ren : Go.Shelf.Ren := ⟨fun | 106 => 50 | 213 => 71 | 265 => 81 | n => n, fun | 9 => 9 | 3 => 3 | n => n, fun | n => n⟩
theorem Try.lays106 : Go.Proofs.Lays.n106 Try.prog Try.lays106_ren := {
  mixed := by kernel_rfl
  f106 := Try.func50.trans (congrArg some (by kernel_rfl))
  f213 := Try.func71.trans (congrArg some (by kernel_rfl))
  f265 := Try.func81.trans (congrArg some (by kernel_rfl))
  t3 := Try.underlying3
  a3 := Try.isAgg3
  z3 := Try.sizeOf3
  v3 := Try.zeroValue3
  t9 := Try.underlying9
  a9 := Try.isAgg9
  z9 := Try.sizeOf9
  v9 := Try.zeroValue9 }
open Go.RowKit in
theorem Try.strings_Compare (a b : ByteArray) (w : World) :
    Calls Try.prog 50 #[.string a, .string b] w fun e w' => e = .returned (.int .i64 (Lib.compareBytes a.data.toList b.data.toList)) ∧ w' = w := Any.strings_Compare Try.lays106 a b w
namespace Qxb6603644a
open Go.RowKit Go.Lib Go.Sort

theorem cb_lt : ∀ l m : List UInt8, Lib.compareBytes l m < 0 ↔ l < m
  | [], [] => by simp [Lib.compareBytes]
  | [], _ :: _ => by simp [Lib.compareBytes]
  | _ :: _, [] => by simp [Lib.compareBytes]
  | a :: l, b :: m => by
    have ih := cb_lt l m
    rw [List.cons_lt_cons_iff]
    simp only [Lib.compareBytes]
    by_cases h1 : a < b
    · simp [h1]
    · by_cases h2 : b < a
      · rw [if_neg h1, if_pos h2]
        have hne : a ≠ b := fun e => by subst e; exact h1 h2
        simp [h1, hne]
      · rw [if_neg h1, if_neg h2, ih]
        have he : a = b := UInt8.le_antisymm (UInt8.not_lt.1 h2) (UInt8.not_lt.1 h1)
        simp [he]
theorem cb_eq : ∀ l m : List UInt8, Lib.compareBytes l m = 0 ↔ l = m
  | [], [] => by simp [Lib.compareBytes]
  | [], _ :: _ => by simp [Lib.compareBytes]
  | _ :: _, [] => by simp [Lib.compareBytes]
  | a :: l, b :: m => by
    have ih := cb_eq l m
    simp only [Lib.compareBytes]
    by_cases h1 : a < b
    · have hne : a ≠ b := fun e => by subst e; exact UInt8.lt_irrefl _ h1
      simp [h1, hne]
    · by_cases h2 : b < a
      · have hne : a ≠ b := fun e => by subst e; exact h1 h2
        rw [if_neg h1, if_pos h2]
        simp [hne]
      · rw [if_neg h1, if_neg h2, ih]
        have he : a = b := UInt8.le_antisymm (UInt8.not_lt.1 h2) (UInt8.not_lt.1 h1)
        simp [he]

/-- by hash, then id, then seq -/
def cmpC (x y : C) : Int :=
  if cmp3 x.hash y.hash != 0 then cmp3 x.hash y.hash
  else if Lib.compareBytes x.id.data.toList y.id.data.toList != 0 then Lib.compareBytes x.id.data.toList y.id.data.toList
  else cmp3 x.seq y.seq
theorem cmp3_lt (a b : Int) : cmp3 a b < 0 ↔ a < b := by
  unfold cmp3
  split
  · simp [*]
  · split
    · simp; omega
    · simp; omega
theorem cmp3_zero (a b : Int) : cmp3 a b = 0 ↔ a = b := by
  unfold cmp3
  split
  · simp; omega
  · split
    · simp; omega
    · simp; omega
theorem cmpC_lt (x y : C) : cmpC x y < 0 ↔ ksl x.k y.k := by
  unfold cmpC ksl klt same
  have e1 : x.hash = x.k.r.hash := rfl
  have e2 : y.hash = y.k.r.hash := rfl
  have e3 : x.id.data.toList = x.k.r.id := rfl
  have e4 : y.id.data.toList = y.k.r.id := rfl
  have e5 : x.seq = x.k.seq := rfl
  have e6 : y.seq = y.k.seq := rfl
  rw [e1, e2, e3, e4, e5, e6]
  by_cases h1 : x.k.r.hash = y.k.r.hash
  · have z1 : cmp3 x.k.r.hash y.k.r.hash = 0 := (cmp3_zero _ _).2 h1
    rw [z1]
    by_cases h2 : x.k.r.id = y.k.r.id
    · have z2 : Lib.compareBytes x.k.r.id y.k.r.id = 0 := (cb_eq _ _).2 h2
      rw [z2]
      simp only [bne_self_eq_false, Bool.false_eq_true, if_false]
      rw [cmp3_lt]
      simp [h1, h2, List.lt_irrefl]
    · have z2 : Lib.compareBytes x.k.r.id y.k.r.id ≠ 0 := fun h => h2 ((cb_eq _ _).1 h)
      rw [if_neg (by simp), if_pos (by simpa using z2), cb_lt]
      simp [h1, h2]
  · have z1 : cmp3 x.k.r.hash y.k.r.hash ≠ 0 := fun h => h1 ((cmp3_zero _ _).1 h)
    rw [if_pos (by simpa using z1), cmp3_lt]
    simp [h1]
theorem ksl_tri (a b : K) : ksl a b ∨ (same a.r b.r ∧ a.seq = b.seq) ∨ ksl b a := by
  rcases klt_tri a.r b.r with h | h | h
  · exact .inl (.inl h)
  · rcases Int.lt_trichotomy a.seq b.seq with h2 | h2 | h2
    · exact .inl (.inr ⟨h, h2⟩)
    · exact .inr (.inl ⟨h, h2⟩)
    · exact .inr (.inr (.inr ⟨same_symm h, h2⟩))
  · exact .inr (.inr (.inl h))
theorem ksl_eq {a b c : K} (h1 : ksl a b) (h2 : same b.r c.r ∧ b.seq = c.seq) : ksl a c := by
  rcases h1 with h | ⟨h, h3⟩
  · exact .inl (klt_same h h2.1)
  · exact .inr ⟨same_trans h h2.1, by omega⟩
theorem swoC : SWO (ltOf cmpC) where
  irrefl x := by simp only [ltOf, decide_eq_false_iff_not, cmpC_lt]; exact ksl_irrefl _
  trans x y z h1 h2 := by
    simp only [ltOf, decide_eq_true_iff, cmpC_lt] at *
    exact ksl_trans h1 h2
  ntrans x y z h1 h2 := by
    simp only [ltOf, decide_eq_false_iff_not, cmpC_lt] at *
    intro h3
    rcases ksl_tri y.k z.k with h | h | h
    · exact h2 h
    · exact h1 (ksl_eq h3 ⟨same_symm h.1, h.2.symm⟩)
    · exact h1 (ksl_trans h3 h)

set_option maxRecDepth 10000 in
theorem compare_any (x y : C) (W : World) : Calls Try.prog 42 #[.agg (cellsC x).toArray, .agg (cellsC y).toArray] W fun e w' => e = .returned (.int .i64 (cmpC x y)) ∧ ∃ q os', w' = grow (W.drewN q) os' := by
  obtain ⟨r, hr⟩ : ∃ r, cmpC x y = r := ⟨_, rfl⟩
  obtain ⟨a, ha⟩ : ∃ a, cmp3 x.hash y.hash = a := ⟨_, rfl⟩
  obtain ⟨b, hb⟩ : ∃ b, Lib.compareBytes x.id.data.toList y.id.data.toList = b := ⟨_, rfl⟩
  obtain ⟨c, hc⟩ : ∃ c, cmp3 x.seq y.seq = c := ⟨_, rfl⟩
  rw [hr]
  have HR : Hid (r = if a != 0 then a else if b != 0 then b else c) := by rw [← hr, ← ha, ← hb, ← hc]; rfl
  have h49 := fun W => cmp49 x.hash y.hash W
  have h50 := fun W => Try.strings_Compare x.id y.id W
  have h51 := fun W => cmp51 x.seq y.seq W
  rw [ha] at h49
  rw [hb] at h50
  rw [hc] at h51
  clear ha hb hc hr
  unfold cellsC
  go_enter Try.func42, Try.ntmps42
  go_wp2_with (first
    | (go_at_call 49; refine (h49 _).mono ?_; rintro x1 w1 ⟨rfl, hw1⟩; subst w1)
    | (go_at_call 50; refine (h50 _).mono ?_; rintro x1 w1 ⟨rfl, hw1⟩; subst w1)
    | (go_at_call 51; refine (h51 _).mono ?_; rintro x1 w1 ⟨rfl, hw1⟩; subst w1))
  all_goals
    go_ret
    refine ⟨ret_i64 ?_, 0, _, by rw [alloc_eq_grow, alloc_eq_grow, grow_grow]; rfl⟩
    rw [HR.out]
    simp [*]

theorem holds_row {w : World} {b off : Nat} {cs : List C} (h : ChRow w b off cs) (hf : ∀ o, w.frozen? ⟨b, off + o, none⟩ = false) : HoldsK cellsC 4 w b off cs.toArray := by
  intro j hj
  rw [size_flatK] at hj
  refine ⟨?_, hf j⟩
  rw [get_flatK _ _ _ _ hj]
  have hi : j / 4 < cs.length := by simp at hj; omega
  have e : cs.toArray[j / 4]! = cAt cs (j / 4) := by
    unfold cAt
    rw [List.getD_eq_getElem?_getD, List.getElem?_eq_getElem hi, getElem!_pos cs.toArray (j / 4) (by simpa using hi)]
    simp
  rw [e]
  obtain ⟨a0, a1, a2, a3⟩ := h (j / 4) hi
  rcases (by omega : j % 4 = 0 ∨ j % 4 = 1 ∨ j % 4 = 2 ∨ j % 4 = 3) with m | m | m | m <;> rw [m]
  · rw [show off + j = off + j / 4 * 4 by omega]; exact a0
  · rw [show off + j = off + j / 4 * 4 + 1 by omega]; exact a1
  · rw [show off + j = off + j / 4 * 4 + 2 by omega]; exact a2
  · rw [show off + j = off + j / 4 * 4 + 3 by omega]; exact a3
theorem row_holds {w : World} {b off : Nat} {d : Array C} (h : HoldsK cellsC 4 w b off d) : ChRow w b off d.toList := by
  intro i hi
  have hi' : i < d.size := by simpa using hi
  have e : cAt d.toList i = d[i]! := by
    unfold cAt
    rw [List.getD_eq_getElem?_getD, List.getElem?_eq_getElem hi, getElem!_pos d i hi']
    simp
  rw [e]
  exact ⟨(h.cell hi' (show 0 < 4 by omega)).1, (h.cell hi' (show 1 < 4 by omega)).1, (h.cell hi' (show 2 < 4 by omega)).1, (h.cell hi' (show 3 < 4 by omega)).1⟩

theorem sort_any (M n cap : Nat) (cs : List C) (w : World) (hn : cs.length = n) (hnb : n ≤ 1048576) (hM : M < w.heap.size) (hrow : ChRow w M 0 cs) (hf : ∀ o, w.frozen? ⟨M, o, none⟩ = false) :
    Calls Try.prog 41 #[.slice (some ⟨M, 0, none⟩) n cap, .func (.func 42) #[] #[]] w fun x w' => x = .returned (.tuple #[]) ∧ ∃ ds : List C, ds.Perm cs ∧ ds.Pairwise (fun a b => ¬ ksl b.k a.k) ∧ ChRow w' M 0 ds ∧ (∀ o, w'.frozen? ⟨M, o, none⟩ = false) ∧ Below M w w' ∧ (∀ k, k ≠ M → k < w.heap.size → w'.heap[k]? = w.heap[k]?) := by
  have eg : ∀ args w, (callFunc 42 args).run Try.prog w = .ok (.enter 42 args) w := enters_of Try.func42 (by kernel_rfl) rfl
  have hH := holds_row hrow (fun o => hf (0 + o))
  have hcon := AnyQ.slices_SortFunc Try.sortC 4 Try.isAgg56 Try.sizeOf56 cellsC (fun _ => rfl) (fun x v hv => by simp [cellsC] at hv; rcases hv with rfl | rfl | rfl | rfl <;> rfl) cmpC swoC 42 #[] M 0 cap cs.toArray w eg (fun _ _ _ _ x y => compare_any x y _) hH hM (by simp; omega)
  have es : cs.toArray.size = n := by simpa using hn
  rw [es] at hcon
  change Calls Try.prog 41 _ _ _ at hcon
  refine hcon.mono ?_
  rintro x w' ⟨rfl, d', m, os, hp, hs, rfl⟩
  have hsz : d'.size = n := hp.1.trans es
  have hh : (putRowK cellsC 4 (Sort.ahead w m) M 0 d').heap.size = w.heap.size := by simp [putRowK, putRow, mapBlock, Sort.ahead]
  have hblk : ∀ k, k ≠ M → k < w.heap.size → (sortWorldK cellsC 4 w M 0 m d' os).heap[k]? = w.heap[k]? := by
    intro k hk hlt
    unfold sortWorldK grow
    show ((putRowK cellsC 4 (Sort.ahead w m) M 0 d').heap ++ os)[k]? = _
    rw [Array.getElem?_append_left (by rw [hh]; exact hlt)]
    simp only [putRowK, putRow, mapBlock, Sort.ahead, Array.getElem?_modify]
    rw [if_neg (fun e => hk e.symm)]
  have hhold := holdsK_sortWorldK cellsC 4 w M 0 m cs.toArray d' os hM hH hp.1
  refine ⟨rfl, d'.toList, ?_, ?_, row_holds hhold, fun o => ?_, ⟨rfl, rfl, rfl, ?_, fun k hk => hblk k (by omega) (by omega)⟩, hblk⟩
  · have := hp.2.2
    rw [show cs.toArray.extract 0 n = cs.toArray by rw [← es]; simp, show d'.extract 0 n = d' by rw [← hsz]; simp] at this
    simpa using this
  · rw [List.pairwise_iff_getElem]
    intro i j hi hj hij hk
    have h1 := hs i j (Nat.zero_le _) hij (by rw [← hsz]; simpa using hj)
    rw [ltOf, decide_eq_false_iff_not, cmpC_lt] at h1
    apply h1
    rw [getElem!_pos d' i (by simpa using hi), getElem!_pos d' j (by simpa using hj)]
    simpa using hk
  · have h1 : (sortWorldK cellsC 4 w M 0 m d' os).heap[M]? = (w.heap[M]?).map (onCells (putCells id 0 (flatK cellsC 4 d'))) := by
      unfold sortWorldK grow
      show ((putRowK cellsC 4 (Sort.ahead w m) M 0 d').heap ++ os)[M]? = _
      rw [Array.getElem?_append_left (by rw [hh]; exact hM)]
      simp only [putRowK, putRow, mapBlock, Sort.ahead, Array.getElem?_modify]
      rw [if_pos trivial]
    have h2 := hf o
    unfold World.frozen? at h2 ⊢
    rw [h1]
    cases hw : w.heap[M]? with
    | none => rfl
    | some ob =>
      rw [hw] at h2
      cases ob <;> simp_all [onCells]
  · show w.heap.size ≤ (sortWorldK cellsC 4 w M 0 m d' os).heap.size
    unfold sortWorldK grow
    simp only [Array.size_append, hh]
    omega
end Qxb6603644a
end Go.Proofs
