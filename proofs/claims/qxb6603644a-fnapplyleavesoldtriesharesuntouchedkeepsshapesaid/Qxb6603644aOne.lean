/-
  THE WALK of zzOneHashPerID (21).
-/
import Derived.Test.Qxb6603644aPairs
import Derived.Test.Qxb6603644aStrict
import Derived.Deep.RegionHeld3
namespace Go.Proofs.Qxb6603644a
open Go.RowKit Go.Shelf

def prZ (z : Z) : Pr := (z.id, z.hash)
/-- one hash an id -/
def OneZ (zs : List Z) : Prop := ∀ x ∈ zs, ∀ y ∈ zs, x.id.data.toList = y.id.data.toList → x.hash = y.hash
theorem srt_one {ys : List Pr} (hs : Srt ys) (hadj : ∀ j, j + 1 < ys.length → (pAt ys j).1.data.toList = (pAt ys (j + 1)).1.data.toList → (pAt ys j).2 = (pAt ys (j + 1)).2) :
    ∀ p ∈ ys, ∀ q ∈ ys, p.1.data.toList = q.1.data.toList → p.2 = q.2 := by
  have hpw : ∀ i j, i < j → j < ys.length → PLe (pAt ys i) (pAt ys j) := by
    intro i j hij hj
    have := List.pairwise_iff_getElem.1 hs i j (by omega) hj hij
    rw [pAt_eq (show i < ys.length by omega), pAt_eq hj]
    exact this
  have key : ∀ d i, i + d < ys.length → (pAt ys i).1.data.toList = (pAt ys (i + d)).1.data.toList → (pAt ys i).2 = (pAt ys (i + d)).2 := by
    intro d
    induction d with
    | zero => intro i _ _; rfl
    | succ d ih =>
      intro i hi he
      have h1 := hpw i (i + 1) (by omega) (by omega)
      have h2 : (pAt ys (i + 1)).1.data.toList = (pAt ys i).1.data.toList := by
        by_cases hd : d = 0
        · subst hd
          exact he.symm
        · have h3 := hpw (i + 1) (i + (d + 1)) (by omega) hi
          unfold PLe at h1 h3
          rw [← he] at h3
          exact List.le_antisymm (List.not_lt.1 h3) (List.not_lt.1 h1)
      rw [hadj i (by omega) h2.symm]
      have e : i + (d + 1) = (i + 1) + d := by omega
      rw [e] at he hi ⊢
      exact ih (i + 1) hi (by rw [h2]; exact he)
  intro p hp q hq he
  obtain ⟨i, hi, rfl⟩ := List.mem_iff_getElem.1 hp
  obtain ⟨j, hj, rfl⟩ := List.mem_iff_getElem.1 hq
  rw [← pAt_eq hi, ← pAt_eq hj] at he ⊢
  rcases Nat.le_total i j with h | h
  · obtain ⟨d, rfl⟩ : ∃ d, j = i + d := ⟨j - i, by omega⟩
    exact key d i hj he
  · obtain ⟨d, rfl⟩ : ∃ d, i = j + d := ⟨i - j, by omega⟩
    exact (key d j hi he.symm).symm

/-- the pairs' row at work -/
structure PA (w : World) (B cap k : Nat) (ps : List Pr) (W : World) : Prop where
  row : ∀ i, i < k → W.rangeAt B (i * 2) (encP (pAt ps i))
  th : W.there B 0 (cap * 2)
  ge : w.heap.size ≤ B
  lt : B < W.heap.size
  below : Below w.heap.size w W
theorem PA.later {w : World} {B cap k : Nat} {ps : List Pr} {W W' : World} (h : PA w B cap k ps W) (hb : Below W.heap.size W W') : PA w B cap k ps W' :=
  ⟨fun i hi j v hv => Keep.below (X := Nowhere) hb _ _ (fun h => h) (h.row i hi j v hv), there_below h.th hb h.lt, h.ge, by have := hb.size; have := h.lt; omega, h.below.trans (hb.mono h.below.size)⟩
theorem PA.drew {w : World} {B cap k : Nat} {ps : List Pr} {W : World} (h : PA w B cap k ps W) : PA w B cap k ps W.drew := h.later ⟨rfl, rfl, rfl, Nat.le_refl _, fun _ _ => rfl⟩
theorem PA.alloc {w : World} {B cap k : Nat} {ps : List Pr} {W : World} (h : PA w B cap k ps W) (o : Obj) : PA w B cap k ps (W.alloc o) := h.later ((Below.refl _ _).alloc (Nat.le_refl _) _)
theorem PA.put {w : World} {B cap k : Nat} {ps : List Pr} {W : World} (h : PA w B cap k ps W) (hk : k < cap) : PA w B cap (k + 1) ps (W.setCells B (0 + k * 2) (encP (pAt ps k))) := by
  have hlen : ∀ p, (encP p).length = 2 := fun _ => rfl
  have ht : W.there B (0 + k * 2) 2 := there_sub h.th (Nat.zero_le _) (by omega)
  refine ⟨fun i hi => ?_, there_cells _ h.th, h.ge, by rw [size_setCells]; exact h.lt, Below.setCells' h.below h.ge _ _⟩
  by_cases e : i = k
  · subst e
    have := World.rangeAt_setCells_same W B (0 + i * 2) (encP (pAt ps i)) (by rw [hlen]; exact ht)
    rw [Nat.zero_add] at this ⊢
    exact this
  · exact World.rangeAt_setCells_apart (h.row i (by omega)) B _ _ (.inr (.inl (by rw [hlen]; omega)))

/-- an 'append' within the capacity, in a region that draws -/
theorem op_append_cells {P : Program} {w : World} {o : Oper} {a : Act} {K : Act → World → Prop} {Q : Exit → Act → World → Prop}
    (s x : Operand) (t : TypeId) (hop : o.op = Op.call { callee := Callee.builtin Builtin.append, args := #[s, x], argTypes := #[t, t] })
    (e : TypeId) (i : TypeInfo) (size : Nat) (h1 : P.underlying t = some (.slice e)) (h2 : P.info? e = some i) (h4 : i.size = size)
    (b off k cap : Nat) (hs : a.eval s = .slice (some ⟨b, off, none⟩) k cap) (ad : Addr) (m c : Nat) (news : List Value) (hx : a.eval x = .slice (some ad) m c) (hn : news.length = m * size)
    (hc : ∀ j u, news[j]? = some u → w.cell? (ad.add j) = some u) (h1c : ∀ u ∈ news, u.oneCell' = true) (b1 : k + m ≤ cap)
    (hcc : ∀ j, j < news.length → (w.cell? ⟨b, off + k * size + j, none⟩).isSome = true) (hf : ∀ j, j < news.length → w.frozen? ⟨b, off + k * size + j, none⟩ = false)
    (hK : K (a.put o.dst (.slice (some ⟨b, off, none⟩) (k + m) cap)) (w.setCells b (off + k * size) news)) :
    Oper.wp P o a w K Q := by
  subst h4
  have hrun := run_append_room_cells (P := P) w t o.type e i h1 h2 b off k cap ad m c news hn hc h1c b1 hcc hf
  unfold Oper.wp
  simp [execOp, hop, resolve, invoke, builtin, hs, hx, hrun, Result.andThen]
  exact hK

set_option maxRecDepth 10000 in
set_option maxHeartbeats 4000000 in
theorem oneHash_any (ao co : Option Addr) (b off n cap c off2 m cap2 : Nat) (bs cs : List Z) (w : World) (hao : n = 0 ∨ ao = some ⟨b, off, none⟩) (hco : m = 0 ∨ co = some ⟨c, off2, none⟩) (hn : bs.length = n) (hm : cs.length = m) (hnb : n ≤ 8192) (hmb : m ≤ 8192) (hb : ZRow w b off bs) (hc : ZRow w c off2 cs) :
    Calls Try.prog 21 #[.slice ao n cap, .slice co m cap2] w fun x w' => Says (OneZ (bs ++ cs)) x ∧ Below w.heap.size w w' := by
  have HB : Hid (ZRow w b off bs) := hb
  have HC : Hid (ZRow w c off2 cs) := hc
  have HN : Hid (bs.length = n) := hn
  have HM : Hid (cs.length = m) := hm
  obtain ⟨ps, hps⟩ : ∃ ps, (bs ++ cs).map prZ = ps := ⟨_, rfl⟩
  have HPS : Hid ((bs ++ cs).map prZ = ps) := hps
  have hzAt : ∀ (zs : List Z) i (h : i < zs.length), zAt zs i = zs[i] := fun zs i h => by
    unfold zAt
    rw [List.getD_eq_getElem?_getD, List.getElem?_eq_getElem h]
    rfl
  have HL1 : Hid (∀ k, k < n → pAt ps (k) = prZ (zAt bs k)) := fun k hk => by
    rw [← hps, pAt_eq (by simp; omega), hzAt bs k (by omega)]
    rw [List.getElem_map, List.getElem_append_left (by omega)]
  have HL2 : Hid (∀ k, k < m → pAt ps (n + k) = prZ (zAt cs k)) := fun k hk => by
    rw [← hps, pAt_eq (by simp; omega), hzAt cs k (by omega)]
    rw [List.getElem_map, List.getElem_append_right (by omega)]
    simp [hn]
  have HPL : Hid (ps.length = n + m) := by show _ = _; rw [← hps]; simp [hn, hm]
  clear hps hzAt hb hc hn hm
  obtain ⟨i0, hi0, hz0, hz1, hz2⟩ := info_parts Try.info76
  clear hz0 hz2
  have hmx : Try.prog.follows .mixedOrders = true := by kernel_rfl
  have hmk : ∃ arr : Array Value, arr.size = (n + m) * 2 ∧ ∀ w, (Instr.makeSlice 74 (.int .i64 0) (.int .i64 ((n : Int) + (m : Int)))).run Try.prog w = .ok (.slice (some ⟨w.heap.size, 0, none⟩) 0 (n + m)) (w.alloc (.cells arr 76)) :=
    ⟨_, size_madeCells _ _, fun w => by
      have := mkRow Try.underlying74 Try.info76 0 (n + m) (Nat.zero_le _) (by omega) (by decide) w
      rw [Int.natCast_add] at this
      exact this⟩
  obtain ⟨arr, harr, hmk⟩ := hmk
  have hA0 : Hid (PA w w.heap.size (n + m) 0 ps (w.alloc (.cells arr 76))) := by
    refine ⟨fun i hi => absurd hi (by omega), ?_, Nat.le_refl _, by simp, (Below.refl _ _).alloc (Nat.le_refl _) _⟩
    rw [← harr]
    exact there_new w arr 76
  clear harr
  have hwn : IntKind.i64.wrap ((n : Int) + (m : Int)) = (n : Int) + (m : Int) := by simp [IntKind.wrap, IntKind.bits, IntKind.signed]; omega
  go_enter Try.func21, Try.ntmps21
  go_wp2
  clear hmk
  go_loopw [5, 6] (fun v i wr => ∃ k : Nat, k ≤ n ∧ v = .slice (some ⟨w.heap.size, 0, none⟩) (k) (n + m) ∧ i = .int .i64 k ∧ Hid (PA w w.heap.size (n + m) (k) ps wr)) (fun _ i _ => n - (intOf i).toNat)
  case atStart => exact ⟨0, Nat.zero_le _, rfl, rfl, hA0⟩
  case round =>
    clear hA0
    obtain ⟨k, hk, rfl, rfl, hA⟩ := hrel
    by_cases hlt : k < n
    · obtain rfl : ao = some ⟨b, off, none⟩ := hao.resolve_left (by omega)
      have hrg : wr.rangeAt b (off + k * 21) (encZ (zAt bs k)) := (HB.out.later hA.out.below) k (by rw [HN.out]; exact hlt)
      have r0 := hrg 0 _ rfl
      have r2 := hrg 2 _ rfl
      rw [Nat.add_zero] at r0
      have hpk : Hid (encP (pAt ps (k)) = [.string (zAt bs k).id, .int .u64 (zAt bs k).hash]) := by
        show _ = _
        rw [HL1.out k (by omega)]
        rfl
      obtain ⟨id, hid⟩ : ∃ s, (zAt bs k).id = s := ⟨_, rfl⟩
      obtain ⟨h, hh⟩ : ∃ h, (zAt bs k).hash = h := ⟨_, rfl⟩
      rw [hid] at r2 hpk
      rw [hh] at r0 hpk
      clear hrg hid hh
      have hkI : (k : Int) < (n : Int) := by omega
      have hroom : k + 1 ≤ n + m := by omega
      go_wp2
      refine wp_region_held_drew (S := fun W5 => W5.cell? ⟨b, off + k * 21, none⟩ = some (.int .u64 h) ∧ W5.cell? ⟨b, off + k * 21 + 2, none⟩ = some (.string id)) hmx ⟨r0, r2⟩ ?_
      intro hS0
      refine wpAnyH_take (i := 0) (v := ?vbs0) rfl (by kernel_rfl) (by kernel_rfl) (by kernel_rfl) (fun _ _ _ h => h) (Or.inl ⟨by rfl, ?hybs0⟩) hS0 ?_
      case hybs0 => (intro w hS; obtain ⟨q0, q2⟩ := hS; go_simp; try (with_reducible rfl))
      refine wpAnyH_take (i := 1) (v := ?vbs1) rfl (by kernel_rfl) (by kernel_rfl) (by kernel_rfl) (fun _ _ _ h => h) (Or.inl ⟨by rfl, ?hybs1⟩) hS0 ?_
      case hybs1 => (intro w hS; obtain ⟨q0, q2⟩ := hS; go_simp; try (with_reducible rfl))
      refine wpAnyH_take (i := 2) (v := ?vbs2) rfl (by kernel_rfl) (by kernel_rfl) (by kernel_rfl) (fun _ _ _ h => h) (Or.inl ⟨by rfl, ?hybs2⟩) hS0 ?_
      case hybs2 => (intro w hS; obtain ⟨q0, q2⟩ := hS; go_simp; try (with_reducible rfl))
      refine wpAnyH_take (i := 3) (v := ?vbs3) rfl (by kernel_rfl) (by kernel_rfl) (by kernel_rfl) (fun _ _ _ h => h) (Or.inl ⟨by rfl, ?hybs3⟩) hS0 ?_
      case hybs3 => (intro w hS; obtain ⟨q0, q2⟩ := hS; go_simp; try (with_reducible rfl))
      refine wpAnyH_take (i := 4) (v := ?vbs4) rfl (by kernel_rfl) (by kernel_rfl) (by kernel_rfl) (fun _ _ _ h => h) (Or.inl ⟨by rfl, ?hybs4⟩) hS0 ?_
      case hybs4 => (intro w hS; obtain ⟨q0, q2⟩ := hS; go_simp; try (with_reducible rfl))
      refine wpAnyH_take (i := 5) (v := ?vbs5) rfl (by kernel_rfl) (by kernel_rfl) (by kernel_rfl) (fun _ _ _ h => h) (Or.inl ⟨by rfl, ?hybs5⟩) hS0 ?_
      case hybs5 => (intro w hS; obtain ⟨q0, q2⟩ := hS; go_simp; try (with_reducible rfl))
      refine wpAnyH_take (i := 6) (v := ?vbs6) rfl (by kernel_rfl) (by kernel_rfl) (by kernel_rfl) (fun _ _ _ h => h) (Or.inl ⟨by rfl, ?hybs6⟩) hS0 ?_
      case hybs6 => (intro w hS; obtain ⟨q0, q2⟩ := hS; go_simp; try (with_reducible rfl))
      refine wpAnyH_take (i := 7) (v := ?vbs7) rfl (by kernel_rfl) (by kernel_rfl) (by kernel_rfl) (fun _ _ _ h => h) (Or.inl ⟨by rfl, ?hybs7⟩) hS0 ?_
      case hybs7 => (intro w hS; obtain ⟨q0, q2⟩ := hS; go_simp; try (with_reducible rfl))
      refine wpAnyH_take (i := 8) (v := ?vbs8) rfl (by kernel_rfl) (by kernel_rfl) (by kernel_rfl) (fun _ _ _ h => h) (Or.inl ⟨by rfl, ?hybs8⟩) hS0 ?_
      case hybs8 => (intro w hS; obtain ⟨q0, q2⟩ := hS; go_simp; try (with_reducible rfl))
      refine wpAnyH_take (i := 9) (v := ?vbs9) rfl (by kernel_rfl) (by kernel_rfl) (by kernel_rfl) (fun _ _ _ h => h) (Or.inl ⟨by rfl, ?hybs9⟩) hS0 ?_
      case hybs9 => (intro w hS; obtain ⟨q0, q2⟩ := hS; go_simp; try (with_reducible rfl))
      refine wpAnyH_take (i := 10) (v := ?vbs10) rfl (by kernel_rfl) (by kernel_rfl) (by kernel_rfl) (fun _ _ _ h => h) (Or.inl ⟨by rfl, ?hybs10⟩) hS0 ?_
      case hybs10 => (intro w hS; obtain ⟨q0, q2⟩ := hS; go_simp; try (with_reducible rfl))
      refine wpAnyH_take (i := 11) (v := ?vbs11) rfl (by kernel_rfl) (by kernel_rfl) (by kernel_rfl) (fun _ _ _ h => h) (Or.inl ⟨by rfl, ?hybs11⟩) hS0 ?_
      case hybs11 => (intro w hS; obtain ⟨q0, q2⟩ := hS; go_simp; try (with_reducible rfl))
      refine wpAnyH_ready (rs := [12]) (by kernel_rfl) (by simp) ?_
      refine AllReadyH.cons rfl (fun K hK => ?_) AllReadyH.nil
      go_simp
      refine hK.out _ _ ⟨keep_new wr _ _ _ (fun h => h) r0, keep_new wr _ _ _ (fun h => h) r2⟩ (fun hS0 => ?_)
      clear hK K
      obtain ⟨W4, hW4⟩ : ∃ W4, W4 = (wr.alloc (.cells #[.string id, .int .u64 h] 76)).drew := ⟨_, rfl⟩
      rw [← hW4] at hS0 ⊢
      have hA1 : Hid (PA w w.heap.size (n + m) (k) ps W4) := by rw [hW4]; exact (hA.out.alloc _).drew
      have hbx : Hid (W4.heap[wr.heap.size]? = some (.cells #[.string id, .int .u64 h] 76)) := by rw [hW4]; exact heap_alloc_new wr (.cells #[.string id, .int .u64 h] 76)
      clear hW4
      refine wpAnyH_ready (rs := [13]) (by kernel_rfl) (by simp) ?_
      refine AllReadyH.cons rfl (fun K hK => ?_) AllReadyH.nil
      have hpk0 := hpk.out
      have hA2 := hA1.out.put (show k < n + m by omega)
      rw [hpk0] at hA2
      rw [if_pos (by kernel_rfl)]
      refine op_append_cells _ _ 74 rfl 76 i0 2 Try.underlying74 hi0 hz1 w.heap.size 0 (k) (n + m) rfl ⟨wr.heap.size, 0, none⟩ 1 1 [.string id, .int .u64 h] rfl rfl ?c1bs ?c2bs hroom ?c3bs ?c4bs ?_
      case c1bs =>
        intro j u hj
        rw [Addr.add_mid, Lib.cell_of_heap hbx.out, Nat.zero_add, ← hj]
        simp
      case c2bs => intro u hu; simp at hu; rcases hu with rfl | rfl <;> rfl
      case c3bs => exact fun j hj => (there_sub (o' := 0 + (k) * 2) (n' := 2) hA1.out.th (Nat.zero_le _) (by omega) j hj).1
      case c4bs => exact fun j hj => (there_sub (o' := 0 + (k) * 2) (n' := 2) hA1.out.th (Nat.zero_le _) (by omega) j hj).2
      obtain ⟨W5, hW5⟩ : ∃ W5, W5 = W4.setCells w.heap.size (0 + (k) * 2) [.string id, .int .u64 h] := ⟨_, rfl⟩
      rw [← hW5] at hA2 ⊢
      have HA2 : Hid (PA w w.heap.size (n + m) (k + 1) ps W5) := hA2
      have hS5 : W5.cell? ⟨b, off + k * 21, none⟩ = some (.int .u64 h) ∧ W5.cell? ⟨b, off + k * 21 + 2, none⟩ = some (.string id) := by
        have h5 := (HB.out.later hA2.below) k (by rw [HN.out]; exact hlt)
        have e0 := hpk0
        rw [HL1.out k (by omega)] at e0
        simp only [encP, prZ, List.cons.injEq, Value.string.injEq, Value.int.injEq, true_and, and_true] at e0
        have g0 := h5 0 _ rfl
        have g2 := h5 2 _ rfl
        rw [Nat.add_zero, e0.2] at g0
        rw [e0.1] at g2
        exact ⟨g0, g2⟩
      clear hA2 hW5 hbx hA1 hpk0 hA hpk
      refine hK.out _ _ hS5 (fun hS0 => ?_)
      clear hK K
      refine wpAnyH_take (i := 14) (v := ?vbs14) rfl (by kernel_rfl) (by kernel_rfl) (by kernel_rfl) (fun _ _ _ h => h) (Or.inl ⟨by rfl, ?hybs14⟩) hS0 ?_
      case hybs14 => (intro w hS; obtain ⟨q0, q2⟩ := hS; go_simp; try (with_reducible rfl))
      refine wpAnyH_done (by kernel_rfl) ?_ _
      clear hS0 hS5 r0 r2
      go_wp2
      go_roundw
      case rel => exact ⟨k + 1, hlt, rfl, by go_num, HA2⟩
      case measure => simp [intOf]; omega
    · obtain rfl : k = n := by omega
      go_upto_region 7 with fail
      go_loopw [5, 7] (fun v i wr => ∃ j : Nat, j ≤ m ∧ v = .slice (some ⟨w.heap.size, 0, none⟩) (k + j) (k + m) ∧ i = .int .i64 j ∧ Hid (PA w w.heap.size (k + m) (k + j) ps wr)) (fun _ i _ => m - (intOf i).toNat)
      case atStart => exact ⟨0, Nat.zero_le _, rfl, rfl, hA⟩
      case round =>
        clear hA hk hlt
        obtain ⟨n, rfl⟩ : ∃ n, n = k := ⟨_, rfl⟩
        obtain ⟨k, hk, rfl, rfl, hA⟩ := hrel
        by_cases hlt : k < m
        · obtain rfl : co = some ⟨c, off2, none⟩ := hco.resolve_left (by omega)
          have hrg : wr.rangeAt c (off2 + k * 21) (encZ (zAt cs k)) := (HC.out.later hA.out.below) k (by rw [HM.out]; exact hlt)
          have r0 := hrg 0 _ rfl
          have r2 := hrg 2 _ rfl
          rw [Nat.add_zero] at r0
          have hpk : Hid (encP (pAt ps (n + k)) = [.string (zAt cs k).id, .int .u64 (zAt cs k).hash]) := by
            show _ = _
            rw [HL2.out k (by omega)]
            rfl
          obtain ⟨id, hid⟩ : ∃ s, (zAt cs k).id = s := ⟨_, rfl⟩
          obtain ⟨h, hh⟩ : ∃ h, (zAt cs k).hash = h := ⟨_, rfl⟩
          rw [hid] at r2 hpk
          rw [hh] at r0 hpk
          clear hrg hid hh
          have hkI : (k : Int) < (m : Int) := by omega
          have hroom : n + k + 1 ≤ n + m := by omega
          go_wp2
          refine wp_region_held_drew (S := fun W5 => W5.cell? ⟨c, off2 + k * 21, none⟩ = some (.int .u64 h) ∧ W5.cell? ⟨c, off2 + k * 21 + 2, none⟩ = some (.string id)) hmx ⟨r0, r2⟩ ?_
          intro hS0
          refine wpAnyH_take (i := 0) (v := ?vcs0) rfl (by kernel_rfl) (by kernel_rfl) (by kernel_rfl) (fun _ _ _ h => h) (Or.inl ⟨by rfl, ?hycs0⟩) hS0 ?_
          case hycs0 => (intro w hS; obtain ⟨q0, q2⟩ := hS; go_simp; try (with_reducible rfl))
          refine wpAnyH_take (i := 1) (v := ?vcs1) rfl (by kernel_rfl) (by kernel_rfl) (by kernel_rfl) (fun _ _ _ h => h) (Or.inl ⟨by rfl, ?hycs1⟩) hS0 ?_
          case hycs1 => (intro w hS; obtain ⟨q0, q2⟩ := hS; go_simp; try (with_reducible rfl))
          refine wpAnyH_take (i := 2) (v := ?vcs2) rfl (by kernel_rfl) (by kernel_rfl) (by kernel_rfl) (fun _ _ _ h => h) (Or.inl ⟨by rfl, ?hycs2⟩) hS0 ?_
          case hycs2 => (intro w hS; obtain ⟨q0, q2⟩ := hS; go_simp; try (with_reducible rfl))
          refine wpAnyH_take (i := 3) (v := ?vcs3) rfl (by kernel_rfl) (by kernel_rfl) (by kernel_rfl) (fun _ _ _ h => h) (Or.inl ⟨by rfl, ?hycs3⟩) hS0 ?_
          case hycs3 => (intro w hS; obtain ⟨q0, q2⟩ := hS; go_simp; try (with_reducible rfl))
          refine wpAnyH_take (i := 4) (v := ?vcs4) rfl (by kernel_rfl) (by kernel_rfl) (by kernel_rfl) (fun _ _ _ h => h) (Or.inl ⟨by rfl, ?hycs4⟩) hS0 ?_
          case hycs4 => (intro w hS; obtain ⟨q0, q2⟩ := hS; go_simp; try (with_reducible rfl))
          refine wpAnyH_take (i := 5) (v := ?vcs5) rfl (by kernel_rfl) (by kernel_rfl) (by kernel_rfl) (fun _ _ _ h => h) (Or.inl ⟨by rfl, ?hycs5⟩) hS0 ?_
          case hycs5 => (intro w hS; obtain ⟨q0, q2⟩ := hS; go_simp; try (with_reducible rfl))
          refine wpAnyH_take (i := 6) (v := ?vcs6) rfl (by kernel_rfl) (by kernel_rfl) (by kernel_rfl) (fun _ _ _ h => h) (Or.inl ⟨by rfl, ?hycs6⟩) hS0 ?_
          case hycs6 => (intro w hS; obtain ⟨q0, q2⟩ := hS; go_simp; try (with_reducible rfl))
          refine wpAnyH_take (i := 7) (v := ?vcs7) rfl (by kernel_rfl) (by kernel_rfl) (by kernel_rfl) (fun _ _ _ h => h) (Or.inl ⟨by rfl, ?hycs7⟩) hS0 ?_
          case hycs7 => (intro w hS; obtain ⟨q0, q2⟩ := hS; go_simp; try (with_reducible rfl))
          refine wpAnyH_take (i := 8) (v := ?vcs8) rfl (by kernel_rfl) (by kernel_rfl) (by kernel_rfl) (fun _ _ _ h => h) (Or.inl ⟨by rfl, ?hycs8⟩) hS0 ?_
          case hycs8 => (intro w hS; obtain ⟨q0, q2⟩ := hS; go_simp; try (with_reducible rfl))
          refine wpAnyH_take (i := 9) (v := ?vcs9) rfl (by kernel_rfl) (by kernel_rfl) (by kernel_rfl) (fun _ _ _ h => h) (Or.inl ⟨by rfl, ?hycs9⟩) hS0 ?_
          case hycs9 => (intro w hS; obtain ⟨q0, q2⟩ := hS; go_simp; try (with_reducible rfl))
          refine wpAnyH_take (i := 10) (v := ?vcs10) rfl (by kernel_rfl) (by kernel_rfl) (by kernel_rfl) (fun _ _ _ h => h) (Or.inl ⟨by rfl, ?hycs10⟩) hS0 ?_
          case hycs10 => (intro w hS; obtain ⟨q0, q2⟩ := hS; go_simp; try (with_reducible rfl))
          refine wpAnyH_take (i := 11) (v := ?vcs11) rfl (by kernel_rfl) (by kernel_rfl) (by kernel_rfl) (fun _ _ _ h => h) (Or.inl ⟨by rfl, ?hycs11⟩) hS0 ?_
          case hycs11 => (intro w hS; obtain ⟨q0, q2⟩ := hS; go_simp; try (with_reducible rfl))
          refine wpAnyH_ready (rs := [12]) (by kernel_rfl) (by simp) ?_
          refine AllReadyH.cons rfl (fun K hK => ?_) AllReadyH.nil
          go_simp
          refine hK.out _ _ ⟨keep_new wr _ _ _ (fun h => h) r0, keep_new wr _ _ _ (fun h => h) r2⟩ (fun hS0 => ?_)
          clear hK K
          obtain ⟨W4, hW4⟩ : ∃ W4, W4 = (wr.alloc (.cells #[.string id, .int .u64 h] 76)).drew := ⟨_, rfl⟩
          rw [← hW4] at hS0 ⊢
          have hA1 : Hid (PA w w.heap.size (n + m) (n + k) ps W4) := by rw [hW4]; exact (hA.out.alloc _).drew
          have hbx : Hid (W4.heap[wr.heap.size]? = some (.cells #[.string id, .int .u64 h] 76)) := by rw [hW4]; exact heap_alloc_new wr (.cells #[.string id, .int .u64 h] 76)
          clear hW4
          refine wpAnyH_ready (rs := [13]) (by kernel_rfl) (by simp) ?_
          refine AllReadyH.cons rfl (fun K hK => ?_) AllReadyH.nil
          have hpk0 := hpk.out
          have hA2 := hA1.out.put (show n + k < n + m by omega)
          rw [hpk0] at hA2
          rw [if_pos (by kernel_rfl)]
          refine op_append_cells _ _ 74 rfl 76 i0 2 Try.underlying74 hi0 hz1 w.heap.size 0 (n + k) (n + m) rfl ⟨wr.heap.size, 0, none⟩ 1 1 [.string id, .int .u64 h] rfl rfl ?c1cs ?c2cs hroom ?c3cs ?c4cs ?_
          case c1cs =>
            intro j u hj
            rw [Addr.add_mid, Lib.cell_of_heap hbx.out, Nat.zero_add, ← hj]
            simp
          case c2cs => intro u hu; simp at hu; rcases hu with rfl | rfl <;> rfl
          case c3cs => exact fun j hj => (there_sub (o' := 0 + (n + k) * 2) (n' := 2) hA1.out.th (Nat.zero_le _) (by omega) j hj).1
          case c4cs => exact fun j hj => (there_sub (o' := 0 + (n + k) * 2) (n' := 2) hA1.out.th (Nat.zero_le _) (by omega) j hj).2
          obtain ⟨W5, hW5⟩ : ∃ W5, W5 = W4.setCells w.heap.size (0 + (n + k) * 2) [.string id, .int .u64 h] := ⟨_, rfl⟩
          rw [← hW5] at hA2 ⊢
          have HA2 : Hid (PA w w.heap.size (n + m) (n + k + 1) ps W5) := hA2
          have hS5 : W5.cell? ⟨c, off2 + k * 21, none⟩ = some (.int .u64 h) ∧ W5.cell? ⟨c, off2 + k * 21 + 2, none⟩ = some (.string id) := by
            have h5 := (HC.out.later hA2.below) k (by rw [HM.out]; exact hlt)
            have e0 := hpk0
            rw [HL2.out k (by omega)] at e0
            simp only [encP, prZ, List.cons.injEq, Value.string.injEq, Value.int.injEq, true_and, and_true] at e0
            have g0 := h5 0 _ rfl
            have g2 := h5 2 _ rfl
            rw [Nat.add_zero, e0.2] at g0
            rw [e0.1] at g2
            exact ⟨g0, g2⟩
          clear hA2 hW5 hbx hA1 hpk0 hA hpk
          refine hK.out _ _ hS5 (fun hS0 => ?_)
          clear hK K
          refine wpAnyH_take (i := 14) (v := ?vcs14) rfl (by kernel_rfl) (by kernel_rfl) (by kernel_rfl) (fun _ _ _ h => h) (Or.inl ⟨by rfl, ?hycs14⟩) hS0 ?_
          case hycs14 => (intro w hS; obtain ⟨q0, q2⟩ := hS; go_simp; try (with_reducible rfl))
          refine wpAnyH_done (by kernel_rfl) ?_ _
          clear hS0 hS5 r0 r2
          go_wp2
          go_roundw
          case rel => exact ⟨k + 1, hlt, rfl, by go_num, HA2⟩
          case measure => simp [intOf]; omega
        · obtain rfl : k = m := by omega
          have hcall := sortPairs_any wr w.heap.size w.heap.size (n + k) ps (Nat.le_refl _) hA.out.lt HPL.out (by omega) (fun i hi => hA.out.row i (by rw [HPL.out] at hi; exact hi)) hA.out.th
          go_upto_region 12 with (go_at_call 37; refine hcall.mono ?_; rintro x4 w4 ⟨B4, ys, rfl, hr4, hp4, hs4, hge4, hb4⟩)
          have HR4 : Hid (PRow w4 B4 ys) := hr4
          have HP4 : Hid (ys.Perm ps) := hp4
          have HS4 : Hid (Srt ys) := hs4
          have HB4 : Hid (Below w.heap.size w w4) := (hA.out.below).trans hb4
          have HYL : Hid (ys.length = n + k) := by show _ = _; rw [hp4.length_eq]; exact HPL.out
          clear hr4 hp4 hs4 hb4 hcall hA
          go_loopw [8] (fun i wr => ∃ q : Nat, 1 ≤ q ∧ q ≤ n + k + 1 ∧ i = .int .i64 q ∧ Hid (∀ j, j + 1 < q → (pAt ys j).1.data.toList = (pAt ys (j + 1)).1.data.toList → (pAt ys j).2 = (pAt ys (j + 1)).2) ∧ Hid (PRow wr B4 ys) ∧ Hid (Below w.heap.size w wr)) (fun i _ => n + k + 1 - (intOf i).toNat)
          case atStart => exact ⟨1, Nat.le_refl _, by omega, rfl, fun j hj => absurd hj (by omega), HR4, HB4⟩
          case round =>
            clear HR4 HB4
            obtain ⟨q, hq1, hq2, rfl, hall, hR, hB⟩ := hrel
            by_cases hlt : q < n + k
            · obtain ⟨j, rfl⟩ : ∃ j, q = j + 1 := ⟨q - 1, by omega⟩
              have hx := hR.out j (by rw [HYL.out]; omega)
              have hy := hR.out (j + 1) (by rw [HYL.out]; omega)
              obtain ⟨x, hxx⟩ : ∃ x, pAt ys j = x := ⟨_, rfl⟩
              obtain ⟨y, hyy⟩ : ∃ y, pAt ys (j + 1) = y := ⟨_, rfl⟩
              rw [hxx] at hx
              rw [hyy] at hy
              have HXX : Hid (pAt ys j = x) := hxx
              have HYY : Hid (pAt ys (j + 1) = y) := hyy
              clear hxx hyy
              have x0 := hx 0 _ rfl
              have x1 := hx 1 _ rfl
              have y0 := hy 0 _ rfl
              have y1 := hy 1 _ rfl
              rw [Nat.add_zero] at x0 y0
              clear hx hy
              obtain ⟨xi, xh⟩ := x
              obtain ⟨yi, yh⟩ := y
              simp only [] at x0 x1 y0 y1
              have hwk : IntKind.i64.wrap (j : Int) = (j : Int) := by simp [IntKind.wrap, IntKind.bits, IntKind.signed]; omega
              have hkn : (j : Int) < (n : Int) + (k : Int) := by omega
              have hkn1 : (j : Int) + 1 < (n : Int) + (k : Int) := by omega
              have hkk : j < n + k := by omega
              have hk01 : (0 : Int) ≤ (j : Int) + 1 := by omega
              have hR2 : Hid (∀ d, PRow (wr.drewN d) B4 ys) := fun d => hR.out
              have hB2 : Hid (∀ d, Below w.heap.size w (wr.drewN d)) := fun d => ⟨hB.out.os, hB.out.tape, hB.out.output, hB.out.size, hB.out.block⟩
              cases hE : (xi.toList == yi.toList)
              · have hnot : Hid (∀ i, i + 1 < j + 1 + 1 → (pAt ys i).1.data.toList = (pAt ys (i + 1)).1.data.toList → (pAt ys i).2 = (pAt ys (i + 1)).2) := fun i hi he => by
                  by_cases e : i = j
                  · subst e
                    rw [HXX.out, HYY.out] at he
                    have := (toList_eq_iff xi yi).2 he
                    rw [hE] at this
                    cases this
                  · exact hall.out i (by omega) he
                go_upto_region 14 with fail
                go_quiet (fail)
                go_wp2
                go_roundw
                case rel => exact ⟨j + 1 + 1, by omega, by omega, by go_num, hnot, hR2.out _, hB2.out _⟩
                case measure => simp [intOf]; omega
              · cases hH : (xh != yh)
                · have hnot : Hid (∀ i, i + 1 < j + 1 + 1 → (pAt ys i).1.data.toList = (pAt ys (i + 1)).1.data.toList → (pAt ys i).2 = (pAt ys (i + 1)).2) := fun i hi he => by
                    by_cases e : i = j
                    · subst e
                      rw [HXX.out, HYY.out]
                      simpa using hH
                    · exact hall.out i (by omega) he
                  go_upto_region 14 with fail
                  go_quiet (fail)
                  go_wp2
                  go_roundw
                  case rel => exact ⟨j + 1 + 1, by omega, by omega, by go_num, hnot, hR2.out _, hB2.out _⟩
                  case measure => simp [intOf]; omega
                · go_upto_region 14 with fail
                  go_quiet (fail)
                  go_wp2
                  go_ret
                  exact ⟨⟨false, rfl, fun h => by cases h⟩, hB2.out _⟩
            · have hd : decide ((q : Int) < (n : Int) + (k : Int)) = false := by simp; omega
              go_wp2
              go_ret
              refine ⟨⟨true, rfl, fun _ x hx y hy he => ?_⟩, hB.out⟩
              have hone := srt_one HS4.out (fun j hj => hall.out j (by rw [HYL.out] at hj; omega))
              have hmem : ∀ z ∈ bs ++ cs, prZ z ∈ ys := fun z hz => by
                rw [HP4.out.mem_iff, ← HPS.out]
                exact List.mem_map_of_mem hz
              exact hone (prZ x) (hmem x hx) (prZ y) (hmem y hy) he
end Go.Proofs.Qxb6603644a
