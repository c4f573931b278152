/-
  THE WALK of settle (39): in place.
-/
import Derived.Test.Qxb6603644aBuild
import Derived.ArgAppend
namespace Go.Proofs.Qxb6603644a
open Go.RowKit Go.Shelf

/-- 'append' within the capacity, in terms of cells alone -/
theorem wpList_append_cells {P : Program} (w : World) {ops : Array Oper} {rest : List Oper} {o : Oper} {a : Act} {Q : Exit → Act → World → Prop}
    (hg : o.guard = none) (s x : Operand) (t : TypeId) (hop : o.op = Op.call { callee := Callee.builtin Builtin.append, args := #[s, x], argTypes := #[t, t] })
    (e : TypeId) (i : TypeInfo) (size : Nat) (h1 : P.underlying t = some (.slice e)) (h2 : P.info? e = some i) (h4 : i.size = size)
    (b off k cap : Nat) (hs : a.eval s = .slice (some ⟨b, off, none⟩) k cap) (ad : Addr) (m c : Nat) (news : List Value) (hx : a.eval x = .slice (some ad) m c) (hn : news.length = m * size)
    (hc : ∀ j u, news[j]? = some u → w.cell? (ad.add j) = some u) (h1c : ∀ u ∈ news, u.oneCell' = true) (b1 : k + m ≤ cap)
    (hcc : ∀ j, j < news.length → (w.cell? ⟨b, off + k * size + j, none⟩).isSome = true) (hf : ∀ j, j < news.length → w.frozen? ⟨b, off + k * size + j, none⟩ = false)
    (hK : wpList P ops Q rest (a.put o.dst (.slice (some ⟨b, off, none⟩) (k + m) cap)) (w.setCells b (off + k * size) news)) :
    wpList P ops Q (o :: rest) a w := by
  subst h4
  refine wpList_plain hg fun K hK' => ?_
  have hrun := run_append_room_cells (P := P) w t o.type e i h1 h2 b off k cap ad m c news hn hc h1c b1 hcc hf
  unfold Oper.wp
  simp [execOp, hop, resolve, invoke, builtin, hs, hx, hrun, Result.andThen]
  exact hK' _ _ hK

def settleC : List C → List C
  | [] => []
  | [k] => if k.k.put = true then [k] else []
  | k :: k' :: ks => if k'.k.r.id ≠ k.k.r.id ∧ k.k.put = true then k :: settleC (k' :: ks) else settleC (k' :: ks)
theorem settleC_map : ∀ cs : List C, (settleC cs).map (fun c => c.k) = settle (cs.map fun c => c.k)
  | [] => rfl
  | [k] => by
    simp only [settleC, List.map_cons, List.map_nil, settle]
    split <;> rfl
  | k :: k' :: ks => by
    have ih := settleC_map (k' :: ks)
    simp only [settleC, List.map_cons, settle] at ih ⊢
    split
    · simp only [List.map_cons, ih]
    · exact ih
theorem settleC_sub : ∀ cs : List C, (settleC cs).Sublist cs
  | [] => .slnil
  | [k] => by
    unfold settleC
    split
    · exact List.Sublist.refl _
    · exact List.nil_sublist _
  | k :: k' :: ks => by
    unfold settleC
    split
    · exact (settleC_sub (k' :: ks)).cons_cons k
    · exact (settleC_sub (k' :: ks)).cons k
theorem settleC_put : ∀ cs : List C, ∀ c ∈ settleC cs, c.k.put = true
  | [], c, h => by simp [settleC] at h
  | [k], c, h => by
    unfold settleC at h
    split at h
    · rename_i hp
      obtain rfl : c = k := by simpa using h
      exact hp
    · simp at h
  | k :: k' :: ks, c, h => by
    unfold settleC at h
    split at h
    · rename_i hp
      rcases List.mem_cons.1 h with rfl | h
      · exact hp.2
      · exact settleC_put (k' :: ks) c h
    · exact settleC_put (k' :: ks) c h

/-- is the i-th kept? -/
def keeps (cs : List C) (i : Nat) : Prop := (i + 1 = cs.length ∨ (cAt cs (i + 1)).k.r.id ≠ (cAt cs i).k.r.id) ∧ (cAt cs i).k.put = true
theorem drop_cAt {cs : List C} {i : Nat} (h : i < cs.length) : cs.drop i = cAt cs i :: cs.drop (i + 1) := by
  rw [List.drop_eq_getElem_cons h]
  congr 1
  unfold cAt
  rw [List.getD_eq_getElem?_getD, List.getElem?_eq_getElem h]
  rfl
theorem settleC_step {cs : List C} {i : Nat} (h : i < cs.length) : (keeps cs i → settleC (cs.drop i) = cAt cs i :: settleC (cs.drop (i + 1))) ∧ (¬ keeps cs i → settleC (cs.drop i) = settleC (cs.drop (i + 1))) := by
  rw [drop_cAt h]
  by_cases h1 : i + 1 < cs.length
  · rw [drop_cAt h1]
    constructor
    · rintro ⟨hl, hp⟩
      simp only [settleC]
      rw [if_pos ⟨hl.resolve_left (by omega), hp⟩]
    · intro hk
      simp only [settleC]
      rw [if_neg (fun hh => hk ⟨.inr hh.1, hh.2⟩)]
  · rw [List.drop_eq_nil_of_le (by omega)]
    constructor
    · rintro ⟨hl, hp⟩
      simp only [settleC, if_pos hp]
    · intro hk
      simp only [settleC]
      rw [if_neg (fun hh => hk ⟨.inl (by omega), hh⟩)]

def TailRow (w : World) (b off : Nat) (cs : List C) (r : Nat) : Prop := ∀ i, r ≤ i → i < cs.length → w.cell? ⟨b, off + i * 4, none⟩ = some (.int .u64 (cAt cs i).hash) ∧ w.cell? ⟨b, off + i * 4 + 1, none⟩ = some (.int .i64 (cAt cs i).seq) ∧
  w.cell? ⟨b, off + i * 4 + 2, none⟩ = some (.string (cAt cs i).id) ∧ w.cell? ⟨b, off + i * 4 + 3, none⟩ = some (.pointer (cAt cs i).route)

/-- the state of settle's loop: os kept of the first i -/
structure SU (w : World) (b off n : Nat) (cs os : List C) (i : Nat) (W : World) : Prop where
  le : os.length ≤ i
  eq : os ++ settleC (cs.drop i) = settleC cs
  row : ChRow W b off os
  tail : TailRow W b off cs i
  keep : Keep (Seg b off (off + n * 4)) w W
  below : Below b w W
  others : KeepsOthers w W
  fz : ∀ o, W.frozen? ⟨b, o, none⟩ = false
  all : ∀ o, off ≤ o → o < off + n * 4 → ∃ v, W.cell? ⟨b, o, none⟩ = some v
  blk : ∀ k, k ≠ b → k < w.heap.size → W.heap[k]? = w.heap[k]?
theorem SU.alloc {w : World} {b off n i : Nat} {cs os : List C} {W : World} (h : SU w b off n cs os i W) (hb : b < W.heap.size) (o : Obj) : SU w b off n cs os i (W.alloc o) :=
  ⟨h.le, h.eq, h.row.keep (keep_new W o) (fun _ h => h.elim), fun j h1 h2 => by
    obtain ⟨a1, a2, a3, a4⟩ := h.tail j h1 h2
    have hk := keep_new W o
    exact ⟨hk _ _ (fun h => h) a1, hk _ _ (fun h => h) a2, hk _ _ (fun h => h) a3, hk _ _ (fun h => h) a4⟩, h.keep.alloc o, h.below.alloc (by omega) o, h.others.trans (KeepsOthers.alloc _ _), fun q => (World.frozen?_of_block (w := W) (Below.heap_alloc _ _ _ hb)).trans (h.fz q), fun q h1 h2 => by
      obtain ⟨v, hv⟩ := h.all q h1 h2
      exact ⟨v, keep_new W o _ _ (fun h => h) hv⟩, fun k h1 h2 => (Below.heap_alloc _ _ _ (by have := h.below.size; omega)).trans (h.blk k h1 h2)⟩
theorem SU.drewN {w : World} {b off n i : Nat} {cs os : List C} {W : World} (h : SU w b off n cs os i W) (q : Nat) : SU w b off n cs os i (W.drewN q) := ⟨h.le, h.eq, h.row, h.tail, h.keep, ⟨h.below.os, h.below.tape, h.below.output, h.below.size, h.below.block⟩, ⟨h.others.size, h.others.same⟩, h.fz, h.all, h.blk⟩
theorem SU.skip {w : World} {b off n i : Nat} {cs os : List C} {W : World} (h : SU w b off n cs os i W) (hi : i < cs.length) (hk : ¬ keeps cs i) : SU w b off n cs os (i + 1) W :=
  ⟨Nat.le_succ_of_le h.le, by rw [← (settleC_step hi).2 hk]; exact h.eq, h.row, fun j h1 h2 => h.tail j (by omega) h2, h.keep, h.below, h.others, h.fz, h.all, h.blk⟩
def cellsC (c : C) : List Value := [.int .u64 c.hash, .int .i64 c.seq, .string c.id, .pointer c.route]
theorem below_setCells {B b : Nat} (hb : B ≤ b) : ∀ (vs : List Value) (o : Nat) (w W : World), Below B w W → Below B w (W.setCells b o vs)
  | [], _, _, _, h => h
  | v :: r, o, w, _, h => below_setCells hb r (o + 1) w _ (h.setCell (p := ⟨b, o, none⟩) hb v)
theorem others_setCells (b : Nat) : ∀ (vs : List Value) (o : Nat) (w W : World), KeepsOthers w W → KeepsOthers w (W.setCells b o vs)
  | [], _, _, _, h => h
  | _ :: r, o, w, _, h => others_setCells b r (o + 1) w _ (h.trans (KeepsOthers.setCell _ _ _))
theorem heap_setCells (b : Nat) : ∀ (vs : List Value) (o : Nat) (W : World) (k : Nat), k ≠ b → (W.setCells b o vs).heap[k]? = W.heap[k]?
  | [], _, _, _, _ => rfl
  | v :: r, o, W, k, h => by rw [World.setCells, heap_setCells b r (o + 1) _ k h, Below.heap_setCell _ _ _ _ (fun e => h e)]
theorem snoc_at (os : List C) (c : C) : cAt (os ++ [c]) os.length = c := by simp [cAt, List.getD_eq_getElem?_getD]
theorem snoc_before (os : List C) (c : C) {i : Nat} (h : i < os.length) : cAt (os ++ [c]) i = cAt os i := by
  unfold cAt
  rw [List.getD_eq_getElem?_getD, List.getD_eq_getElem?_getD, List.getElem?_append_left h]
theorem SU.put {w : World} {b off n i : Nat} {cs os : List C} {W : World} (h : SU w b off n cs os i W) (hn : cs.length = n) (hi : i < n) (hk : keeps cs i) : SU w b off n cs (os ++ [cAt cs i]) (i + 1) (W.setCells b (off + os.length * 4) (cellsC (cAt cs i))) := by
  have hle := h.le
  have hlen : (cellsC (cAt cs i)).length = 4 := rfl
  have hout : ∀ q : Nat, q < off + os.length * 4 ∨ off + os.length * 4 + 4 ≤ q → ((W.setCells b (off + os.length * 4) (cellsC (cAt cs i))).cell? ⟨b, q, none⟩ = W.cell? ⟨b, q, none⟩) := fun q hq =>
    World.cell?_setCells_out b _ _ _ _ (fun _ _ => by rw [hlen]; exact hq)
  have hsome : ∀ j, j < 4 → (W.cell? ⟨b, off + os.length * 4 + j, none⟩).isSome = true := by
    intro j hj
    obtain ⟨v, hv⟩ := h.all (off + os.length * 4 + j) (by omega) (by omega)
    rw [hv]
    rfl
  have hin := World.cell?_setCells_in b (cellsC (cAt cs i)) (off + os.length * 4) W (by rw [hlen]; exact hsome)
  refine ⟨by simp; omega, ?_, fun q hq => ?_, fun q h1 h2 => ?_, ?_, below_setCells (Nat.le_refl _) _ _ _ _ h.below, others_setCells _ _ _ _ _ h.others, fun q => by rw [World.frozen?_setCells]; exact h.fz q, fun q h1 h2 => ?_, fun k h1 h2 => (heap_setCells b _ _ _ k h1).trans (h.blk k h1 h2)⟩
  · rw [List.append_assoc, List.singleton_append, ← (settleC_step (by omega)).1 hk]
    exact h.eq
  · simp at hq
    by_cases e : q = os.length
    · subst e
      rw [snoc_at]
      exact ⟨hin 0 (by omega), hin 1 (by omega), hin 2 (by omega), hin 3 (by omega)⟩
    · rw [snoc_before _ _ (by omega)]
      obtain ⟨a1, a2, a3, a4⟩ := h.row q (by omega)
      exact ⟨(hout _ (by omega)).trans a1, (hout _ (by omega)).trans a2, (hout _ (by omega)).trans a3, (hout _ (by omega)).trans a4⟩
  · obtain ⟨a1, a2, a3, a4⟩ := h.tail q (by omega) h2
    exact ⟨(hout _ (by omega)).trans a1, (hout _ (by omega)).trans a2, (hout _ (by omega)).trans a3, (hout _ (by omega)).trans a4⟩
  · intro x v hx hv
    have h1 := h.keep x v hx hv
    rw [World.cell?_setCells_out b _ _ _ _ (fun hb _ => ?_)]
    · exact h1
    · rw [hlen]
      rcases Nat.lt_or_ge x.off (off + os.length * 4) with h2 | h2
      · exact .inl h2
      · rcases Nat.lt_or_ge x.off (off + os.length * 4 + 4) with h3 | h3
        · exact absurd ⟨hb, by omega, by omega⟩ hx
        · exact .inr h3
  · by_cases hq : off + os.length * 4 ≤ q ∧ q < off + os.length * 4 + 4
    · have := hin (q - (off + os.length * 4)) (by omega)
      rw [show off + os.length * 4 + (q - (off + os.length * 4)) = q by omega] at this
      exact ⟨_, this⟩
    · obtain ⟨v, hv⟩ := h.all q h1 h2
      exact ⟨v, (hout q (by omega)).trans hv⟩

theorem Try.info56 : (Try.prog.info? 56).map (fun i => (i.zero, i.size, i.bytes)) = some (some (.agg #[.int .u64 0, .int .i64 0, .string ⟨#[]⟩, .pointer none]), 4, 40) := by kernel_rfl
theorem id_eq (a b : C) : (a.id.toList == b.id.toList) = decide (a.k.r.id = b.k.r.id) := by
  unfold C.id R.id
  rw [Lib.toList_data, Lib.toList_data]
  exact Bool.eq_iff_iff.2 (by rw [beq_iff_eq, decide_eq_true_iff])

set_option maxRecDepth 10000 in
set_option maxHeartbeats 1000000 in
theorem settle_some (b off n cap : Nat) (cs : List C) (w : World) (hn : cs.length = n) (h0 : 0 < n) (hnb : n ≤ 16384) (hcap : n ≤ cap) (hcap2 : cap ≤ 9223372036854775807) (hrow : ChRow w b off cs) (hrt : Rts w b cs) (hfz : ∀ o, w.frozen? ⟨b, o, none⟩ = false) :
    Calls Try.prog 39 #[.slice (some ⟨b, off, none⟩) n cap] w fun x w' => x = .returned (.slice (some ⟨b, off, none⟩) (settleC cs).length cap) ∧ ChRow w' b off (settleC cs) ∧ Keep (Seg b off (off + n * 4)) w w' ∧ Below b w w' ∧ KeepsOthers w w' ∧ (∀ o, w'.frozen? ⟨b, o, none⟩ = false) ∧ ∀ k, k ≠ b → k < w.heap.size → w'.heap[k]? = w.heap[k]? := by
  have hS0 : SU w b off n cs [] 0 w := ⟨Nat.le_refl _, rfl, fun i hi => absurd hi (by simp), fun i _ hi => hrow i hi, Keep.refl _ _, Below.refl _ _, KeepsOthers.refl _, hfz, (fun o h1 h2 => by
    obtain ⟨a1, a2, a3, a4⟩ := hrow ((o - off) / 4) (by omega)
    rcases (by omega : o = off + (o - off) / 4 * 4 ∨ o = off + (o - off) / 4 * 4 + 1 ∨ o = off + (o - off) / 4 * 4 + 2 ∨ o = off + (o - off) / 4 * 4 + 3) with e | e | e | e <;> rw [e]
    · exact ⟨_, a1⟩
    · exact ⟨_, a2⟩
    · exact ⟨_, a3⟩
    · exact ⟨_, a4⟩), fun _ _ _ => rfl⟩
  have HS0 : Hid (SU w b off n cs [] 0 w) := hS0
  have HRT : Hid (Rts w b cs) := hrt
  have HN : Hid (cs.length = n) := hn
  have hbl : b < w.heap.size := cell_lt (hrow 0 (by omega)).1
  clear hrow hrt hfz hn hS0
  obtain ⟨i0, hi0, hz0, hz1, hz2⟩ := info_parts Try.info56
  go_enter Try.func39, Try.ntmps39
  go_wp2
  go_loopw [3, 11] (fun v i wr => ∃ (k : Nat) (os : List C), k ≤ n ∧ i = .int .i64 k ∧ v = .slice (some ⟨b, off, none⟩) os.length cap ∧ Hid (SU w b off n cs os k wr)) (fun _ i _ => n - (intOf i).toNat)
  case atStart => exact ⟨0, [], Nat.zero_le _, rfl, rfl, HS0⟩
  case round =>
    obtain ⟨k, os, hk, rfl, rfl, hS⟩ := hrel
    by_cases hlt : k < n
    · obtain ⟨c0, c1, c2, c3⟩ := hS.out.tail k (Nat.le_refl _) (by rw [HN.out]; exact hlt)
      have hblr : b < wr.heap.size := cell_lt c0
      obtain ⟨_, hrt1, hrt2⟩ := HRT.out _ (cAt_mem (by rw [HN.out]; exact hlt))
      obtain ⟨c, hc⟩ : ∃ c, cAt cs k = c := ⟨_, rfl⟩
      have HC : Hid (cAt cs k = c) := hc
      rw [hc] at c0 c1 c2 c3 hrt1 hrt2
      clear hc
      obtain ⟨h, hh⟩ : ∃ h, c.hash = h := ⟨_, rfl⟩
      obtain ⟨sq, hsq⟩ : ∃ sq, c.seq = sq := ⟨_, rfl⟩
      obtain ⟨id, hid⟩ : ∃ id, c.id = id := ⟨_, rfl⟩
      obtain ⟨rt, hrt⟩ : ∃ rt, c.route = rt := ⟨_, rfl⟩
      rw [hh] at c0
      rw [hsq] at c1
      rw [hid] at c2
      rw [hrt] at c3
      have HCC : Hid (cellsC c = [.int .u64 h, .int .i64 sq, .string id, .pointer rt]) := by show _ = _; rw [cellsC, hh, hsq, hid, hrt]
      have HID : Hid (c.id = id) := hid
      have HRTE : Hid (c.route = rt) := hrt
      clear hh hsq hid hrt
      by_cases hkp : keeps cs k
      · have hput : c.k.put = true := by rw [← HC.out]; exact hkp.2
        obtain ⟨rb, ro, hr1, _, _⟩ := hrt1 hput
        rw [HRTE.out] at hr1
        subst hr1
        have hlen := hS.out.le
        have hroom : os.length + 1 ≤ cap := by omega
        clear hrt1 hrt2
        by_cases hend : k + 1 = n
        · have hg : ((k : Int) + 1 == (n : Int)) = true := by simp; omega
          go_wp2
          go_quiet (fail)
          obtain ⟨w1, hw1⟩ : ∃ w1, w1 = (wr.alloc (.cells #[.int .u64 h, .int .i64 sq, .string id, .pointer (some ⟨rb, ro, none⟩)] 56)).drewN nq := ⟨_, rfl⟩
          rw [← hw1]
          have hS1 : SU w b off n cs os k w1 := by rw [hw1]; exact (hS.out.alloc hblr _).drewN nq
          have hbx := heap_alloc_new wr (.cells #[.int .u64 h, .int .i64 sq, .string id, .pointer (some ⟨rb, ro, none⟩)] 56)
          have d0 : w1.cell? ⟨wr.heap.size, 0, none⟩ = some (.int .u64 h) := by rw [hw1]; show World.cell? (wr.alloc _) _ = _; rw [Lib.cell_of_heap hbx]; rfl
          have d1 : w1.cell? ⟨wr.heap.size, 1, none⟩ = some (.int .i64 sq) := by rw [hw1]; show World.cell? (wr.alloc _) _ = _; rw [Lib.cell_of_heap hbx]; rfl
          have d2 : w1.cell? ⟨wr.heap.size, 2, none⟩ = some (.string id) := by rw [hw1]; show World.cell? (wr.alloc _) _ = _; rw [Lib.cell_of_heap hbx]; rfl
          have d3 : w1.cell? ⟨wr.heap.size, 3, none⟩ = some (.pointer (some ⟨rb, ro, none⟩)) := by rw [hw1]; show World.cell? (wr.alloc _) _ = _; rw [Lib.cell_of_heap hbx]; rfl
          clear hw1 hbx hS
          have HS1 : Hid (SU w b off n cs os k w1) := hS1
          clear hS1
          have hb1 : b < w1.heap.size := by
            obtain ⟨v, hv⟩ := HS1.out.all off (by omega) (by omega)
            exact cell_lt hv
          have hS2 : Hid (SU w b off n cs (os ++ [cAt cs k]) (k + 1) ((w1.alloc (.cells #[.int .u64 h, .int .i64 sq, .string id, .pointer (some ⟨rb, ro, none⟩)] 56)).setCells b (off + os.length * 4) [.int .u64 h, .int .i64 sq, .string id, .pointer (some ⟨rb, ro, none⟩)])) := by
            have := (HS1.out.alloc hb1 (.cells #[.int .u64 h, .int .i64 sq, .string id, .pointer (some ⟨rb, ro, none⟩)] 56)).put HN.out hlt hkp
            rw [HC.out, HCC.out] at this
            rw [HC.out]
            exact this
          have hcell : Hid (∀ j, j < 4 → ((w1.alloc (.cells #[.int .u64 h, .int .i64 sq, .string id, .pointer (some ⟨rb, ro, none⟩)] 56)).cell? ⟨b, off + os.length * 4 + j, none⟩).isSome = true ∧ (w1.alloc (.cells #[.int .u64 h, .int .i64 sq, .string id, .pointer (some ⟨rb, ro, none⟩)] 56)).frozen? ⟨b, off + os.length * 4 + j, none⟩ = false) := fun j hj => by
            obtain ⟨v, hv⟩ := (HS1.out.alloc hb1 (.cells #[.int .u64 h, .int .i64 sq, .string id, .pointer (some ⟨rb, ro, none⟩)] 56)).all (off + os.length * 4 + j) (by omega) (by omega)
            exact ⟨by rw [hv]; rfl, (HS1.out.alloc hb1 _).fz _⟩
          go_wp2_with (at_builtin; refine wpList_append_cells _ rfl _ _ 28 rfl 56 i0 4 Try.underlying28 hi0 hz1 b off os.length cap rfl ⟨w1.heap.size, 0, none⟩ 1 1 [.int .u64 h, .int .i64 sq, .string id, .pointer (some ⟨rb, ro, none⟩)] rfl rfl ?c1 ?c2 hroom ?c3 ?c4 ?_)
          case c1 =>
            intro j u hj
            rcases (by have := (List.getElem?_eq_some_iff.1 hj).1; simp at this; omega : j = 0 ∨ j = 1 ∨ j = 2 ∨ j = 3) with rfl | rfl | rfl | rfl <;> (simp at hj; subst hj; simp [Addr.add])
          case c2 => intro u hu; simp at hu; rcases hu with rfl | rfl | rfl | rfl <;> rfl
          case c3 => exact fun j hj => (hcell.out j hj).1
          case c4 => exact fun j hj => (hcell.out j hj).2
          go_wp2
          go_roundw
          case rel => exact ⟨k + 1, os ++ [cAt cs k], hlt, by go_num, by simp, hS2⟩
          case measure => simp [intOf]; omega
        · have hg : ((k : Int) + 1 == (n : Int)) = false := by simp; omega
          obtain ⟨_, _, e2, _⟩ := hS.out.tail (k + 1) (by omega) (by rw [HN.out]; omega)
          obtain ⟨id2, hid2⟩ : ∃ id2, (cAt cs (k + 1)).id = id2 := ⟨_, rfl⟩
          rw [hid2] at e2
          have hne : (id2.toList == id.toList) = false := by
            rw [← hid2, ← HID.out, id_eq]
            rw [decide_eq_false_iff_not, ← HC.out]
            exact hkp.1.resolve_left (by rw [HN.out]; exact hend)
          clear hid2
          go_wp2
          go_quiet (fail)
          obtain ⟨w1, hw1⟩ : ∃ w1, w1 = (wr.alloc (.cells #[.int .u64 h, .int .i64 sq, .string id, .pointer (some ⟨rb, ro, none⟩)] 56)).drewN nq := ⟨_, rfl⟩
          rw [← hw1]
          have hS1 : SU w b off n cs os k w1 := by rw [hw1]; exact (hS.out.alloc hblr _).drewN nq
          have hbx := heap_alloc_new wr (.cells #[.int .u64 h, .int .i64 sq, .string id, .pointer (some ⟨rb, ro, none⟩)] 56)
          have d0 : w1.cell? ⟨wr.heap.size, 0, none⟩ = some (.int .u64 h) := by rw [hw1]; show World.cell? (wr.alloc _) _ = _; rw [Lib.cell_of_heap hbx]; rfl
          have d1 : w1.cell? ⟨wr.heap.size, 1, none⟩ = some (.int .i64 sq) := by rw [hw1]; show World.cell? (wr.alloc _) _ = _; rw [Lib.cell_of_heap hbx]; rfl
          have d2 : w1.cell? ⟨wr.heap.size, 2, none⟩ = some (.string id) := by rw [hw1]; show World.cell? (wr.alloc _) _ = _; rw [Lib.cell_of_heap hbx]; rfl
          have d3 : w1.cell? ⟨wr.heap.size, 3, none⟩ = some (.pointer (some ⟨rb, ro, none⟩)) := by rw [hw1]; show World.cell? (wr.alloc _) _ = _; rw [Lib.cell_of_heap hbx]; rfl
          clear hw1 hbx hS
          have HS1 : Hid (SU w b off n cs os k w1) := hS1
          clear hS1
          have hb1 : b < w1.heap.size := by
            obtain ⟨v, hv⟩ := HS1.out.all off (by omega) (by omega)
            exact cell_lt hv
          have hS2 : Hid (SU w b off n cs (os ++ [cAt cs k]) (k + 1) ((w1.alloc (.cells #[.int .u64 h, .int .i64 sq, .string id, .pointer (some ⟨rb, ro, none⟩)] 56)).setCells b (off + os.length * 4) [.int .u64 h, .int .i64 sq, .string id, .pointer (some ⟨rb, ro, none⟩)])) := by
            have := (HS1.out.alloc hb1 (.cells #[.int .u64 h, .int .i64 sq, .string id, .pointer (some ⟨rb, ro, none⟩)] 56)).put HN.out hlt hkp
            rw [HC.out, HCC.out] at this
            rw [HC.out]
            exact this
          have hcell : Hid (∀ j, j < 4 → ((w1.alloc (.cells #[.int .u64 h, .int .i64 sq, .string id, .pointer (some ⟨rb, ro, none⟩)] 56)).cell? ⟨b, off + os.length * 4 + j, none⟩).isSome = true ∧ (w1.alloc (.cells #[.int .u64 h, .int .i64 sq, .string id, .pointer (some ⟨rb, ro, none⟩)] 56)).frozen? ⟨b, off + os.length * 4 + j, none⟩ = false) := fun j hj => by
            obtain ⟨v, hv⟩ := (HS1.out.alloc hb1 (.cells #[.int .u64 h, .int .i64 sq, .string id, .pointer (some ⟨rb, ro, none⟩)] 56)).all (off + os.length * 4 + j) (by omega) (by omega)
            exact ⟨by rw [hv]; rfl, (HS1.out.alloc hb1 _).fz _⟩
          go_wp2_with (at_builtin; refine wpList_append_cells _ rfl _ _ 28 rfl 56 i0 4 Try.underlying28 hi0 hz1 b off os.length cap rfl ⟨w1.heap.size, 0, none⟩ 1 1 [.int .u64 h, .int .i64 sq, .string id, .pointer (some ⟨rb, ro, none⟩)] rfl rfl ?c1 ?c2 hroom ?c3 ?c4 ?_)
          case c1 =>
            intro j u hj
            rcases (by have := (List.getElem?_eq_some_iff.1 hj).1; simp at this; omega : j = 0 ∨ j = 1 ∨ j = 2 ∨ j = 3) with rfl | rfl | rfl | rfl <;> (simp at hj; subst hj; simp [Addr.add])
          case c2 => intro u hu; simp at hu; rcases hu with rfl | rfl | rfl | rfl <;> rfl
          case c3 => exact fun j hj => (hcell.out j hj).1
          case c4 => exact fun j hj => (hcell.out j hj).2
          go_wp2
          go_roundw
          case rel => exact ⟨k + 1, os ++ [cAt cs k], hlt, by go_num, by simp, hS2⟩
          case measure => simp [intOf]; omega
      · by_cases hend : k + 1 = n
        · have hg : ((k : Int) + 1 == (n : Int)) = true := by simp; omega
          have hput : c.k.put = false := by
            cases hp : c.k.put
            · rfl
            · exact absurd ⟨.inl (by rw [HN.out]; exact hend), by rw [HC.out]; exact hp⟩ hkp
          have hr0 := hrt2 hput
          rw [HRTE.out] at hr0
          subst hr0
          clear hrt1 hrt2
          go_wp2
          go_quiet (fail)
          obtain ⟨w1, hw1⟩ : ∃ w1, w1 = (wr.alloc (.cells #[.int .u64 h, .int .i64 sq, .string id, .pointer none] 56)).drewN nq := ⟨_, rfl⟩
          rw [← hw1]
          have hS1 : SU w b off n cs os k w1 := by rw [hw1]; exact (hS.out.alloc hblr _).drewN nq
          have hbx := heap_alloc_new wr (.cells #[.int .u64 h, .int .i64 sq, .string id, .pointer none] 56)
          have d0 : w1.cell? ⟨wr.heap.size, 0, none⟩ = some (.int .u64 h) := by rw [hw1]; show World.cell? (wr.alloc _) _ = _; rw [Lib.cell_of_heap hbx]; rfl
          have d1 : w1.cell? ⟨wr.heap.size, 1, none⟩ = some (.int .i64 sq) := by rw [hw1]; show World.cell? (wr.alloc _) _ = _; rw [Lib.cell_of_heap hbx]; rfl
          have d2 : w1.cell? ⟨wr.heap.size, 2, none⟩ = some (.string id) := by rw [hw1]; show World.cell? (wr.alloc _) _ = _; rw [Lib.cell_of_heap hbx]; rfl
          have d3 : w1.cell? ⟨wr.heap.size, 3, none⟩ = some (.pointer none) := by rw [hw1]; show World.cell? (wr.alloc _) _ = _; rw [Lib.cell_of_heap hbx]; rfl
          clear hw1 hbx hS
          have HS1 : Hid (SU w b off n cs os k w1) := hS1
          clear hS1
          go_wp2
          go_roundw
          case rel => exact ⟨k + 1, os, hlt, by go_num, rfl, HS1.out.skip (by rw [HN.out]; exact hlt) hkp⟩
          case measure => simp [intOf]; omega
        · have hg : ((k : Int) + 1 == (n : Int)) = false := by simp; omega
          obtain ⟨_, _, e2, _⟩ := hS.out.tail (k + 1) (by omega) (by rw [HN.out]; omega)
          obtain ⟨id2, hid2⟩ : ∃ id2, (cAt cs (k + 1)).id = id2 := ⟨_, rfl⟩
          rw [hid2] at e2
          by_cases hie : (cAt cs (k + 1)).k.r.id = (cAt cs k).k.r.id
          · have hne : (id2.toList == id.toList) = true := by
              rw [← hid2, ← HID.out, id_eq]
              rw [decide_eq_true_iff, ← HC.out]
              exact hie
            clear hid2 hie hrt1 hrt2
            go_wp2
            go_quiet (fail)
            obtain ⟨w1, hw1⟩ : ∃ w1, w1 = (wr.alloc (.cells #[.int .u64 h, .int .i64 sq, .string id, .pointer rt] 56)).drewN nq := ⟨_, rfl⟩
            rw [← hw1]
            have hS1 : SU w b off n cs os k w1 := by rw [hw1]; exact (hS.out.alloc hblr _).drewN nq
            have hbx := heap_alloc_new wr (.cells #[.int .u64 h, .int .i64 sq, .string id, .pointer rt] 56)
            have d0 : w1.cell? ⟨wr.heap.size, 0, none⟩ = some (.int .u64 h) := by rw [hw1]; show World.cell? (wr.alloc _) _ = _; rw [Lib.cell_of_heap hbx]; rfl
            have d1 : w1.cell? ⟨wr.heap.size, 1, none⟩ = some (.int .i64 sq) := by rw [hw1]; show World.cell? (wr.alloc _) _ = _; rw [Lib.cell_of_heap hbx]; rfl
            have d2 : w1.cell? ⟨wr.heap.size, 2, none⟩ = some (.string id) := by rw [hw1]; show World.cell? (wr.alloc _) _ = _; rw [Lib.cell_of_heap hbx]; rfl
            have d3 : w1.cell? ⟨wr.heap.size, 3, none⟩ = some (.pointer rt) := by rw [hw1]; show World.cell? (wr.alloc _) _ = _; rw [Lib.cell_of_heap hbx]; rfl
            clear hw1 hbx hS
            have HS1 : Hid (SU w b off n cs os k w1) := hS1
            clear hS1
            go_wp2
            go_roundw
            case rel => exact ⟨k + 1, os, hlt, by go_num, rfl, HS1.out.skip (by rw [HN.out]; exact hlt) hkp⟩
            case measure => simp [intOf]; omega
          · have hne : (id2.toList == id.toList) = false := by
              rw [← hid2, ← HID.out, id_eq]
              rw [decide_eq_false_iff_not, ← HC.out]
              exact hie
            have hput : c.k.put = false := by
              cases hp : c.k.put
              · rfl
              · exact absurd ⟨.inr hie, by rw [HC.out]; exact hp⟩ hkp
            have hr0 := hrt2 hput
            rw [HRTE.out] at hr0
            subst hr0
            clear hid2 hie hrt1 hrt2
            go_wp2
            go_quiet (fail)
            obtain ⟨w1, hw1⟩ : ∃ w1, w1 = (wr.alloc (.cells #[.int .u64 h, .int .i64 sq, .string id, .pointer none] 56)).drewN nq := ⟨_, rfl⟩
            rw [← hw1]
            have hS1 : SU w b off n cs os k w1 := by rw [hw1]; exact (hS.out.alloc hblr _).drewN nq
            have hbx := heap_alloc_new wr (.cells #[.int .u64 h, .int .i64 sq, .string id, .pointer none] 56)
            have d0 : w1.cell? ⟨wr.heap.size, 0, none⟩ = some (.int .u64 h) := by rw [hw1]; show World.cell? (wr.alloc _) _ = _; rw [Lib.cell_of_heap hbx]; rfl
            have d1 : w1.cell? ⟨wr.heap.size, 1, none⟩ = some (.int .i64 sq) := by rw [hw1]; show World.cell? (wr.alloc _) _ = _; rw [Lib.cell_of_heap hbx]; rfl
            have d2 : w1.cell? ⟨wr.heap.size, 2, none⟩ = some (.string id) := by rw [hw1]; show World.cell? (wr.alloc _) _ = _; rw [Lib.cell_of_heap hbx]; rfl
            have d3 : w1.cell? ⟨wr.heap.size, 3, none⟩ = some (.pointer none) := by rw [hw1]; show World.cell? (wr.alloc _) _ = _; rw [Lib.cell_of_heap hbx]; rfl
            clear hw1 hbx hS
            have HS1 : Hid (SU w b off n cs os k w1) := hS1
            clear hS1
            go_wp2
            go_roundw
            case rel => exact ⟨k + 1, os, hlt, by go_num, rfl, HS1.out.skip (by rw [HN.out]; exact hlt) hkp⟩
            case measure => simp [intOf]; omega
    · obtain rfl : k = n := by omega
      go_wp2
      go_ret
      have hos : os = settleC cs := by
        have := hS.out.eq
        rw [List.drop_eq_nil_of_le (by rw [HN.out]; omega), settleC, List.append_nil] at this
        exact this
      subst hos
      exact ⟨rfl, hS.out.row, hS.out.keep, hS.out.below, hS.out.others, hS.out.fz, hS.out.blk⟩
end Go.Proofs.Qxb6603644a
