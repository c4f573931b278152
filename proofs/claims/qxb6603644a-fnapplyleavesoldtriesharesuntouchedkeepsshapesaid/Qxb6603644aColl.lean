/-
  THE WALK of zzCollect (11).
-/
import Derived.Test.Qxb6603644aModW
import Derived.Test.Qxb6603644aRef
import Derived.Test.Qxb6603644aEach
import Derived.Deep.RegionHeld3
namespace Go.Proofs.Qxb6603644a
open Go.RowKit Go.Shelf

theorem Try.info68 : (Try.prog.info? 68).map (fun i => (i.zero, i.size, i.bytes)) = some (some (.agg #[.int .u64 0, .string ⟨#[]⟩, .string ⟨#[]⟩, .string ⟨#[]⟩, .string ⟨#[]⟩, .string ⟨#[]⟩, .string ⟨#[]⟩, .string ⟨#[]⟩, .int .i64 0, .int .i64 0, .string ⟨#[]⟩, .int .i64 0, .int .i64 0, .string ⟨#[]⟩, .string ⟨#[]⟩, .string ⟨#[]⟩, .string ⟨#[]⟩, .string ⟨#[]⟩, .string ⟨#[]⟩]), 19, 264) := by kernel_rfl
/-- a got row's 19 cells -/
def encG (r : R) : List Value := .int .u64 r.hash :: routeCells r
theorem encG_one (r : R) : ∀ v ∈ encG r, v.oneCell' = true := by
  intro v hv
  rcases List.mem_cons.1 hv with rfl | hv
  · rfl
  · exact route_one r v hv
/-- the routes os have been got, in a row of their own -/
structure CO (w0 : World) (v : Value) (os : List R) (W : World) : Prop where
  own : W.ownsRow w0.heap.size 68 19 v os.length (os.flatMap encG)
  below : Below w0.heap.size w0 W
theorem CO.later {w0 : World} {v : Value} {os : List R} {W W' : World} (h : CO w0 v os W) (hb : Below W.heap.size W W') : CO w0 v os W' := ⟨own_later h.own hb, h.below.trans (hb.mono h.below.size)⟩
theorem CO.ne {w0 : World} {v : Value} {os : List R} {W : World} (h : CO w0 v os W) {b : Nat} (hb : W.heap.size ≤ b) : v.ownBlock ≠ some b := fun e => by have := (h.own.lt b e).2; omega
theorem own_set {W : World} {B : Nat} {e : TypeId} {size n : Nat} {v : Value} {xs : List Value} (h : W.ownsRow B e size v n xs) {p : Addr} (hb : v.ownBlock ≠ some p.block) (u : Value) : (W.setCell p u).ownsRow B e size v n xs := by
  refine ⟨h.1, ?_⟩
  rcases h.2 with hn | ⟨g, cap, cur, rfl, h1, h2, rest⟩
  · exact .inl hn
  · refine .inr ⟨g, cap, cur, rfl, h1, ?_, rest⟩
    rw [Below.heap_setCell _ _ _ _ (fun e => hb (by rw [← e]; rfl))]
    exact h2

def CollP (t : Tr) (dep : Nat) : Prop := ∀ (w0 : World) (v : Value) (os : List R) (W : World), IsT w0 (fun _ => False) t → CO w0 v os W → os.length + t.collect.length ≤ 16384 →
  Calls Try.prog 11 #[.pointer t.ptr, .int .i64 (dep : Nat), v] W fun x W' => ∃ v', x = .returned (.tuple #[v', .bool true]) ∧ CO w0 v' (os ++ t.collect) W'

set_option maxRecDepth 10000 in
theorem coll_nil (dep : Nat) : CollP .nil dep := by
  intro w0 v os W _ hC _
  have HC : Hid (CO w0 v os W) := hC
  clear hC
  show Calls Try.prog 11 #[.pointer none, .int .i64 (dep : Nat), v] W _
  go_enter Try.func11, Try.ntmps11
  go_wp2
  go_ret2
  exact ⟨v, rfl, by rw [show (Tr.nil).collect = [] from by simp [Tr.collect], List.append_nil]; exact HC.out⟩

set_option maxRecDepth 10000 in
set_option maxHeartbeats 2000000 in
theorem coll_inner (g : Nat) (ch : Nat → Tr) (c dep : Nat) (hdep : dep ≤ 16) (ih : ∀ i, i < 16 → CollP (ch i) (dep + 1)) : CollP (.inner g ch c) dep := by
  intro w0 v os W hT hC hl
  have hcol : (Tr.inner g ch c).collect = pc ch 16 := by simp only [Tr.collect, pc]
  rw [hcol] at hl ⊢
  obtain ⟨_, h, _, k0, _, kc⟩ := hT
  have IH : Hid (∀ i, i < 16 → CollP (ch i) (dep + 1)) := ih
  have KC : Hid (∀ i, i < 16 → w0.cell? ⟨h, i, none⟩ = some (.pointer (ch i).ptr) ∧ IsT w0 (fun _ => False) (ch i)) := kc
  have HC : Hid (CO w0 v os W) := hC
  have HL : Hid (os.length + (pc ch 16).length ≤ 16384) := hl
  have g0 := Keep.below (X := Nowhere) hC.below _ _ (fun h => h) k0
  clear ih kc hC hl k0 hcol
  have hcc := children_any g (some ⟨h, 0, none⟩) W g0
  show Calls Try.prog 11 #[.pointer (some ⟨g, 0, none⟩), .int .i64 (dep : Nat), v] W _
  go_enter Try.func11, Try.ntmps11
  go_upto_region 8 with (go_at_call 25; refine hcc.mono ?_; rintro x1 w1 ⟨rfl, rfl⟩)
  go_loopw [2, 9] (fun v i wr => ∃ k : Nat, k ≤ 16 ∧ i = .int .i64 k ∧ Hid (CO w0 v (os ++ pc ch k) wr)) (fun _ i _ => 16 - (intOf i).toNat)
  case atStart => exact ⟨0, Nat.zero_le _, rfl, by have : pc ch 0 = [] := rfl; rw [this, List.append_nil]; exact HC⟩
  case round =>
    clear g0 HC hcc
    obtain ⟨k, hk, rfl, hC⟩ := hrel
    obtain ⟨v2, rfl⟩ : ∃ v2, v2 = u2 := ⟨_, rfl⟩
    by_cases hlt : k < 16
    · obtain ⟨kk0, hTk⟩ := KC.out k hlt
      have kk := Keep.below (X := Nowhere) hC.out.below _ _ (fun h => h) kk0
      have hlk : (os ++ pc ch k).length + (ch k).collect.length ≤ 16384 := by
        have h1 := pc_le ch (show k + 1 ≤ 16 by omega)
        have h2 := HL.out
        rw [pc_succ, List.length_append] at h1
        rw [List.length_append]
        omega
      have hcall := IH.out k hlt w0 v2 _ wr hTk hC.out hlk
      obtain ⟨p, hp⟩ : ∃ p, (ch k).ptr = p := ⟨_, rfl⟩
      rw [hp] at kk hcall
      have hkI : (k : Int) < 16 := by omega
      have e1 : ((dep + 1 : Nat) : Int) = (dep : Int) + 1 := by omega
      rw [e1] at hcall
      clear hp hTk kk0 hlk e1
      go_upto_region 12 with (go_at_call 11; refine hcall.mono ?_; rintro x2 w2 ⟨v3, rfl, hC2⟩)
      have hC3 : Hid (CO w0 v3 (os ++ pc ch (k + 1)) w2) := by
        show CO _ _ _ _
        rw [pc_succ, ← List.append_assoc]
        exact hC2
      clear hC2 hcall hC
      go_wp2
      go_roundw
      case rel => exact ⟨k + 1, hlt, by go_num, hC3⟩
      case measure => simp [intOf]; omega
    · obtain rfl : k = 16 := by omega
      go_wp2
      go_ret2
      exact ⟨v2, rfl, hC.out⟩

/-- a leaf's route's texts, read into K -/
structure TA (w0 : World) (v : Value) (os : List R) (K j : Nat) (r : R) (W : World) : Prop where
  co : CO w0 v os W
  tx : ∀ q, q < j → W.cell? ⟨K, q, none⟩ = some (.string (r.tx q))
  all : ∀ q, q < 14 → ∃ u, W.cell? ⟨K, q, none⟩ = some u
  fz : ∀ o, W.frozen? ⟨K, o, none⟩ = false
  ne : v.ownBlock ≠ some K
  ge : w0.heap.size ≤ K
  lt : K < W.heap.size
theorem TA.put {w0 : World} {v : Value} {os : List R} {K j : Nat} {r : R} {W : World} (h : TA w0 v os K j r W) (hj : j < 14) : TA w0 v os K (j + 1) r (W.setCell ⟨K, j, none⟩ (.string (r.tx j))) := by
  obtain ⟨u, hu⟩ := h.all j hj
  have hs := World.cell?_setCell_same' W ⟨K, j, none⟩ (.string (r.tx j)) (by rw [hu]; rfl)
  refine ⟨⟨own_set h.co.own h.ne _, h.co.below.setCell (p := ⟨K, j, none⟩) h.ge _⟩, fun q hq => ?_, fun q hq => ?_, fun o => by rw [World.frozen?_setCell]; exact h.fz o, h.ne, h.ge, by rw [World.size_setCell]; exact h.lt⟩
  · by_cases e : q = j
    · subst e; exact hs
    · rw [World.cell?_setCell_other _ _ _ _ (fun hh => e (by simpa using hh.symm))]
      exact h.tx q (by omega)
  · by_cases e : q = j
    · subst e; exact ⟨_, hs⟩
    · obtain ⟨u, hu⟩ := h.all q hq
      exact ⟨u, by rw [World.cell?_setCell_other _ _ _ _ (fun hh => e (by simpa using hh.symm))]; exact hu⟩
theorem TA.later {w0 : World} {v : Value} {os : List R} {K j : Nat} {r : R} {W W' : World} (h : TA w0 v os K j r W) (hb : Below W.heap.size W W') : TA w0 v os K j r W' :=
  ⟨h.co.later hb, fun q hq => Keep.below (X := Nowhere) hb _ _ (fun h => h) (h.tx q hq), fun q hq => by
    obtain ⟨u, hu⟩ := h.all q hq
    exact ⟨u, Keep.below (X := Nowhere) hb _ _ (fun h => h) hu⟩, fun o => (World.frozen?_of_block (w := W) (hb.block K h.lt)).trans (h.fz o), h.ne, h.ge, by have := hb.size; have := h.lt; omega⟩
/-- .. and its numbers, read into K2 -/
structure TN (w0 : World) (v : Value) (os : List R) (K K2 c : Nat) (r : R) (W : World) : Prop where
  ta : TA w0 v os K 14 r W
  nm : ∀ q, q < c → W.cell? ⟨K2, q, none⟩ = some (.int .i64 (r.nm q))
  all : ∀ q, q < 4 → ∃ u, W.cell? ⟨K2, q, none⟩ = some u
  fz : ∀ o, W.frozen? ⟨K2, o, none⟩ = false
  ne : v.ownBlock ≠ some K2
  nk : K ≠ K2
  ge : w0.heap.size ≤ K2
theorem TN.put {w0 : World} {v : Value} {os : List R} {K K2 c : Nat} {r : R} {W : World} (h : TN w0 v os K K2 c r W) (hj : c < 4) : TN w0 v os K K2 (c + 1) r (W.setCell ⟨K2, c, none⟩ (.int .i64 (r.nm c))) := by
  obtain ⟨u, hu⟩ := h.all c hj
  have hs := World.cell?_setCell_same' W ⟨K2, c, none⟩ (.int .i64 (r.nm c)) (by rw [hu]; rfl)
  have hK : ∀ q, (W.setCell ⟨K2, c, none⟩ (.int .i64 (r.nm c))).cell? ⟨K, q, none⟩ = W.cell? ⟨K, q, none⟩ := fun q => World.cell?_setCell_other _ _ _ _ (fun hh => h.nk (by simpa using (congrArg Addr.block hh).symm))
  refine ⟨⟨⟨own_set h.ta.co.own h.ne _, h.ta.co.below.setCell (p := ⟨K2, c, none⟩) h.ge _⟩, fun q hq => (hK q).trans (h.ta.tx q hq), fun q hq => ?_, fun o => by rw [World.frozen?_setCell]; exact h.ta.fz o, h.ta.ne, h.ta.ge, by rw [World.size_setCell]; exact h.ta.lt⟩, fun q hq => ?_, fun q hq => ?_, fun o => by rw [World.frozen?_setCell]; exact h.fz o, h.ne, h.nk, h.ge⟩
  · obtain ⟨u, hu⟩ := h.ta.all q hq
    exact ⟨u, (hK q).trans hu⟩
  · by_cases e : q = c
    · subst e; exact hs
    · rw [World.cell?_setCell_other _ _ _ _ (fun hh => e (by simpa using hh.symm))]
      exact h.nm q (by omega)
  · by_cases e : q = c
    · subst e; exact ⟨_, hs⟩
    · obtain ⟨u, hu⟩ := h.all q hq
      exact ⟨u, by rw [World.cell?_setCell_other _ _ _ _ (fun hh => e (by simpa using hh.symm))]; exact hu⟩
theorem TA.new {w0 : World} {v : Value} {os : List R} {W : World} (h : CO w0 v os W) (r : R) (arr : Array Value) (e : TypeId) (ha : arr.size = 14) : TA w0 v os W.heap.size 0 r (W.alloc (.cells arr e)) := by
  have hnew := heap_alloc_new W (.cells arr e)
  exact ⟨h.later ((Below.refl _ _).alloc (Nat.le_refl _) _), fun q hq => absurd hq (by omega), fun q hq => ⟨_, by rw [Lib.cell_of_heap hnew, Array.getElem?_eq_getElem (by omega)]⟩, fun o => Lib.frozen_of_heap hnew o, h.ne (Nat.le_refl _), h.below.size, by simp⟩
theorem TN.new {w0 : World} {v : Value} {os : List R} {K : Nat} {r : R} {W : World} (h : TA w0 v os K 14 r W) (arr : Array Value) (e : TypeId) (ha : arr.size = 4) : TN w0 v os K W.heap.size 0 r (W.alloc (.cells arr e)) := by
  have hnew := heap_alloc_new W (.cells arr e)
  exact ⟨h.later ((Below.refl _ _).alloc (Nat.le_refl _) _), fun q hq => absurd hq (by omega), fun q hq => ⟨_, by rw [Lib.cell_of_heap hnew, Array.getElem?_eq_getElem (by omega)]⟩, fun o => Lib.frozen_of_heap hnew o, h.co.ne (Nat.le_refl _), by have := h.lt; omega, h.co.below.size⟩

/-- an 'append' to a row that is owned, in a region that draws -/
theorem op_append_own {P : Program} {w : World} {o : Oper} {a : Act} {K : Act → World → Prop} {Q : Exit → Act → World → Prop}
    (s x : Operand) (t : TypeId) (hop : o.op = Op.call { callee := Callee.builtin Builtin.append, args := #[s, x], argTypes := #[t, t] })
    (base : Nat) (e : TypeId) (i : TypeInfo) (z : Value) (size bytes : Nat) (h1 : P.underlying t = some (.slice e)) (h2 : P.info? e = some i) (h3 : i.zero = some z) (h4 : i.size = size) (h5 : i.bytes = bytes) (h6 : z.cells.size = size) (h7 : 0 < size)
    (v : Value) (n : Nat) (xs : List Value) (hs : a.eval s = v) (hown : w.ownsRow base e size v n xs) (ad : Addr) (m c : Nat) (news : List Value) (hx : a.eval x = .slice (some ad) m c) (hn : news.length = m * size)
    (hc : ∀ j u, news[j]? = some u → w.cell? (ad.add j) = some u) (h1c : ∀ u ∈ news, u.oneCell' = true) (b1 : n + m ≤ maxLen) (b2 : (n + m) * bytes ≤ 140737488355328) (hb : base ≤ w.heap.size)
    (hK : ∀ v' w', w'.ownsRow base e size v' (n + m) (xs ++ news) → w.grownBy w' v.ownBlock → K (a.put o.dst v') w') : Oper.wp P o a w K Q := by
  obtain ⟨v', w', hrun, r1, r2, _⟩ := run_append_own (P := P) w base t o.type e i z size bytes h1 h2 h3 h4 h5 h6 h7 v n xs hown ad m c news hn hc h1c b1 b2 hb
  unfold Oper.wp
  simp [execOp, hop, resolve, invoke, builtin, hs, hx, hrun, Result.andThen]
  exact hK v' w' r1 r2
theorem op_build1 {t e : TypeId} {z : Value} {size bytes : Nat} (hu : Try.prog.underlying t = some (.slice e)) (hinfo : (Try.prog.info? e).map (fun i => (i.zero, i.size, i.bytes)) = some (some z, size, bytes)) (hs0 : 0 < size) (hs1 : size ≤ 1000)
    {o : Oper} {a : Act} {w : World} {K : Act → World → Prop} {Q : Exit → Act → World → Prop} (x : Operand) (ho : o.op = .buildSlice t 1 #[(0, x)]) (vs : List Value) (hl : vs.length = size) (hx : a.eval x = .agg vs.toArray)
    (h : K (a.put o.dst (.slice (some ⟨w.heap.size, 0, none⟩) 1 1)) (w.alloc (.cells vs.toArray e))) : Oper.wp Try.prog o a w K Q := by
  obtain ⟨i1, hi1, hy0, hy1, hy2⟩ := info_parts hinfo
  refine wp_buildSlice t e 1 _ ho vs.toArray i1 _ hu hi1 hy0 (by rw [hy1]; omega) (by rw [hy1]; omega) ?_ h
  rw [hy1]
  have : (#[((0 : Nat), x)].map fun (p : Nat × Operand) => (p.1, a.eval p.2)).toList = [(0, .agg vs.toArray)] := by simp [hx]
  rw [this]
  have hf := Go.Great.fill_whole hs0 [Value.agg vs.toArray] ((Array.range (1 * size)).map (z.cells[· % z.cells.size]!)) (by simp [Value.cells, hl]) (by simp)
  simpa [Value.cells] using hf

set_option maxRecDepth 10000 in
set_option maxHeartbeats 4000000 in
theorem coll_leaf (g : Nat) (rs : List R) (dep : Nat) (hdep : dep ≤ 17) : CollP (.leaf g rs) dep := by
  intro w0 v os W hT hC hl
  have hcol : (Tr.leaf g rs).collect = rs := by simp only [Tr.collect]
  rw [hcol] at hl ⊢
  clear hcol
  have hT' : LeafAt w0 (fun _ => False) g rs := hT
  obtain ⟨e, _, he1, he2⟩ := hT'.ents
  have htx := hT'.txt
  have hch := hT'.ch
  have HE : Hid (∀ o, o < 19 * rs.length → w0.cell? ⟨e, o, none⟩ = some (entCell rs o)) := he2
  obtain ⟨txt, htxt⟩ : ∃ txt : ByteArray, (⟨(flat rs (14 * rs.length)).toArray⟩ : ByteArray) = txt := ⟨_, rfl⟩
  rw [htxt] at htx
  have HTXT : Hid ((⟨(flat rs (14 * rs.length)).toArray⟩ : ByteArray) = txt) := htxt
  obtain ⟨n, hnn⟩ : ∃ n, rs.length = n := ⟨_, rfl⟩
  rw [hnn] at he1 hl
  have HNN : Hid (rs.length = n) := hnn
  have hgl : g < w0.heap.size := cell_lt hch
  have HCH : Hid (w0.cell? ⟨g, 2, none⟩ = some (.slice (some ⟨e, 0, none⟩) n n)) := he1
  have HC : Hid (CO w0 v (os ++ rs.take 0) W) := by rw [List.take_zero, List.append_nil]; exact hC
  have kk := fun a v h => Keep.below (X := Nowhere) hC.below a v (fun h => h) h
  have hc25 := children_any g none W (kk _ _ hch)
  have hc26 := text_any g txt W (kk _ _ htx)
  have hc27 := count_any g e n W (kk _ _ he1)
  clear kk hT' hT he1 he2 htx hch htxt hnn hC
  obtain ⟨i0, hi0, hz0, hz1, hz2⟩ := info_parts Try.info68
  have HZ0 : Hid _ := hz0
  clear hz0
  have hmx : Try.prog.follows .mixedOrders = true := by kernel_rfl
  show Calls Try.prog 11 #[.pointer (some ⟨g, 0, none⟩), .int .i64 (dep : Nat), v] W _
  go_enter Try.func11, Try.ntmps11
  go_upto_region 19 with (first
    | (go_at_call 25; refine hc25.mono ?_; rintro x1 w1 ⟨rfl, rfl⟩)
    | (go_at_call 26; refine hc26.mono ?_; rintro x2 w2 ⟨rfl, rfl⟩)
    | (go_at_call 27; refine hc27.mono ?_; rintro x3 w3 ⟨rfl, rfl⟩))
  clear hc25 hc26 hc27
  go_loopw [2, 13, 14] (fun v st i wr => ∃ q L : Nat, q ≤ n ∧ i = .int .i64 q ∧ st = .int .i64 L ∧ Hid (L = (flat rs (14 * q)).length) ∧ Hid (CO w0 v (os ++ rs.take q) wr)) (fun _ _ i _ => n - (intOf i).toNat)
  case atStart => exact ⟨0, 0, Nat.zero_le _, rfl, rfl, rfl, HC⟩
  case round =>
    clear HC
    obtain ⟨q, L, hq, rfl, rfl, hL, hC⟩ := hrel
    obtain ⟨v2, rfl⟩ : ∃ v2, v2 = u2 := ⟨_, rfl⟩
    by_cases hlt : q < n
    · obtain ⟨r, hr⟩ : ∃ r, rAt rs q = r := ⟨_, rfl⟩
      have HR : Hid (rAt rs q = r) := hr
      have hqI : (q : Int) < (n : Int) := by omega
      have HTK : Hid (rs.take (q + 1) = rs.take q ++ [r]) := by
        show _ = _
        rw [List.take_add_one, ← hr]
        unfold rAt
        rw [List.getD_eq_getElem?_getD, List.getElem?_eq_getElem (by rw [HNN.out]; exact hlt)]
        rfl
      clear hr
      go_upto_region 23 with fail
      have hTA0 : Hid (TA w0 v2 (os ++ rs.take q) wr.heap.size 0 r (wr.alloc (.cells #[.string ⟨#[]⟩, .string ⟨#[]⟩, .string ⟨#[]⟩, .string ⟨#[]⟩, .string ⟨#[]⟩, .string ⟨#[]⟩, .string ⟨#[]⟩, .string ⟨#[]⟩, .string ⟨#[]⟩, .string ⟨#[]⟩, .string ⟨#[]⟩, .string ⟨#[]⟩, .string ⟨#[]⟩, .string ⟨#[]⟩] 62))) := TA.new hC.out r _ _ rfl
      obtain ⟨K1, hK1⟩ : ∃ K1, K1 = wr.heap.size := ⟨_, rfl⟩
      rw [← hK1] at hTA0 ⊢
      have HLq : Hid (L = (flat rs (14 * q + 0)).length) := hL
      clear hK1 hC hL
      go_loopw [13, 16] (fun st j wr => ∃ p L : Nat, p ≤ 14 ∧ j = .int .i64 p ∧ st = .int .i64 L ∧ Hid (L = (flat rs (14 * q + p)).length) ∧ Hid (TA w0 v2 (os ++ rs.take q) K1 p r wr)) (fun _ j _ => 14 - (intOf j).toNat)
      case atStart => exact ⟨0, L, Nat.zero_le _, rfl, rfl, HLq, hTA0⟩
      case round =>
        clear hTA0 HLq
        obtain ⟨p, L, hp, rfl, rfl, hL, hTA⟩ := hrel
        have kk := fun a v h => Keep.below (X := Nowhere) hTA.out.co.below a v (fun h => h) h
        by_cases hp2 : p < 14
        · have hce : wr.cell? ⟨e, q * 19 + 1 + p, none⟩ = some (.int .i64 ((flat rs (14 * q + p + 1)).length : Nat)) := by
            rw [← ent1 rs q p hp2]
            exact kk _ _ (HE.out _ (by rw [HNN.out]; omega))
          obtain ⟨L2, hL2⟩ : ∃ L2, (flat rs (14 * q + p + 1)).length = L2 := ⟨_, rfl⟩
          rw [hL2] at hce
          have h12 : L ≤ L2 := by rw [hL.out, ← hL2]; exact flat_mono rs (by omega)
          have h23 : L2 ≤ txt.size := by
            have := flat_mono rs (show 14 * q + p + 1 ≤ 14 * rs.length by rw [HNN.out]; omega)
            rw [hL2] at this
            rw [← HTXT.out]
            exact this
          have hext : Hid (txt.extract L L2 = r.tx p) := by
            show _ = _
            have h1 := flat_extract rs (14 * q + p) (14 * rs.length) (by rw [HNN.out]; omega)
            rw [HTXT.out, ← hL.out, hL2] at h1
            rw [h1, T, show (14 * q + p) / 14 = q by omega, show (14 * q + p) % 14 = p by omega, HR.out]
          have hL2' : Hid (L2 = (flat rs (14 * q + (p + 1))).length) := hL2.symm
          obtain ⟨v1, hv1⟩ := hTA.out.all p hp2
          have hf1 := hTA.out.fz p
          have hcall := end_any g e n q p L2 wr (kk _ _ HCH.out) hlt hp2 hce
          have hTA2 : Hid (TA w0 v2 (os ++ rs.take q) K1 (p + 1) r (wr.setCell ⟨K1, p, none⟩ (.string (txt.extract L L2)))) := by
            rw [hext.out]
            exact hTA.out.put hp2
          have hn1 : ¬ L2 < L := by omega
          have hn2 : ¬ txt.size < L2 := by omega
          have hpI : (p : Int) < 14 := by omega
          clear hL2 kk hce hTA
          go_upto_region 26 with (go_at_call 28; refine hcall.mono ?_; rintro x4 w4 ⟨rfl, rfl⟩)
          go_wp2
          go_roundw
          case rel => exact ⟨p + 1, L2, hp2, by go_num, rfl, hL2', hTA2⟩
          case measure => simp [intOf]; omega
        · have hp14 : Hid (p = 14) := by show _ = _; omega
          have hL' : Hid (L = (flat rs (14 * (q + 1))).length) := by
            show _ = _
            rw [hL.out, hp14.out]
            rfl
          have hTA' := hTA.out
          rw [hp14.out] at hTA'
          clear kk
          go_upto_region 32 with fail
          have hTN0 : Hid (TN w0 v2 (os ++ rs.take q) K1 wr.heap.size 0 r (wr.alloc (.cells #[.int .i64 0, .int .i64 0, .int .i64 0, .int .i64 0] 64))) := TN.new hTA' _ _ rfl
          obtain ⟨K2, hK2⟩ : ∃ K2, K2 = wr.heap.size := ⟨_, rfl⟩
          rw [← hK2] at hTN0 ⊢
          clear hK2 hTA hL hTA'
          go_loopw [19] (fun j wr => ∃ c : Nat, c ≤ 4 ∧ j = .int .i64 c ∧ Hid (TN w0 v2 (os ++ rs.take q) K1 K2 c r wr)) (fun j _ => 4 - (intOf j).toNat)
          case atStart => exact ⟨0, Nat.zero_le _, rfl, hTN0⟩
          case round =>
            clear hTN0
            obtain ⟨c, hc, rfl, hTN⟩ := hrel
            have kk := fun a v h => Keep.below (X := Nowhere) hTN.out.ta.co.below a v (fun h => h) h
            by_cases hc2 : c < 4
            · have hce : wr.cell? ⟨e, q * 19 + 15 + c, none⟩ = some (.int .i64 (r.nm c)) := by
                rw [← HR.out, ← ent2 rs q c hc2]
                exact kk _ _ (HE.out _ (by rw [HNN.out]; omega))
              obtain ⟨x, hx⟩ : ∃ x, r.nm c = x := ⟨_, rfl⟩
              rw [hx] at hce
              obtain ⟨v1, hv1⟩ := hTN.out.all c hc2
              have hf1 := hTN.out.fz c
              have hcall := number_any g e n q c x wr (kk _ _ HCH.out) hlt hc2 hce
              have hTN2 : Hid (TN w0 v2 (os ++ rs.take q) K1 K2 (c + 1) r (wr.setCell ⟨K2, c, none⟩ (.int .i64 x))) := by
                rw [← hx]
                exact hTN.out.put hc2
              have hcI : (c : Int) < 4 := by omega
              clear hx kk hce hTN
              go_upto_region 33 with (go_at_call 29; refine hcall.mono ?_; rintro x4 w4 ⟨rfl, rfl⟩)
              go_wp2
              go_roundw
              case rel => exact ⟨c + 1, hc2, by go_num, hTN2⟩
              case measure => simp [intOf]; omega
            · obtain rfl : c = 4 := by omega
              have hch0 : wr.cell? ⟨e, q * 19, none⟩ = some (.int .u64 r.hash) := by
                rw [← HR.out, ← ent0 rs q]
                exact kk _ _ (HE.out _ (by rw [HNN.out]; omega))
              have hg2 := kk _ _ HCH.out
              clear kk
              have c0 := hTN.out.ta.tx 0 (by decide)
              have c1 := hTN.out.ta.tx 1 (by decide)
              have c2 := hTN.out.ta.tx 2 (by decide)
              have c3 := hTN.out.ta.tx 3 (by decide)
              have c4 := hTN.out.ta.tx 4 (by decide)
              have c5 := hTN.out.ta.tx 5 (by decide)
              have c6 := hTN.out.ta.tx 6 (by decide)
              have c7 := hTN.out.ta.tx 7 (by decide)
              have c8 := hTN.out.ta.tx 8 (by decide)
              have c9 := hTN.out.ta.tx 9 (by decide)
              have c10 := hTN.out.ta.tx 10 (by decide)
              have c11 := hTN.out.ta.tx 11 (by decide)
              have c12 := hTN.out.ta.tx 12 (by decide)
              have c13 := hTN.out.ta.tx 13 (by decide)
              have d0 := hTN.out.nm 0 (by decide)
              have d1 := hTN.out.nm 1 (by decide)
              have d2 := hTN.out.nm 2 (by decide)
              have d3 := hTN.out.nm 3 (by decide)
              have hth : (wr.alloc (.cells #[.string ⟨#[]⟩, .string ⟨#[]⟩, .string ⟨#[]⟩, .string ⟨#[]⟩, .string ⟨#[]⟩, .string ⟨#[]⟩, .string ⟨#[]⟩, .int .i64 0, .int .i64 0, .string ⟨#[]⟩, .int .i64 0, .int .i64 0, .string ⟨#[]⟩, .string ⟨#[]⟩, .string ⟨#[]⟩, .string ⟨#[]⟩, .string ⟨#[]⟩, .string ⟨#[]⟩] 53)).there wr.heap.size 0 (routeCells r).length := there_new wr #[.string ⟨#[]⟩, .string ⟨#[]⟩, .string ⟨#[]⟩, .string ⟨#[]⟩, .string ⟨#[]⟩, .string ⟨#[]⟩, .string ⟨#[]⟩, .int .i64 0, .int .i64 0, .string ⟨#[]⟩, .int .i64 0, .int .i64 0, .string ⟨#[]⟩, .string ⟨#[]⟩, .string ⟨#[]⟩, .string ⟨#[]⟩, .string ⟨#[]⟩, .string ⟨#[]⟩] 53
              have hel : e < w0.heap.size := cell_lt (HE.out 0 (by rw [HNN.out]; omega))
              have hCO3 : Hid (CO w0 v2 (os ++ rs.take q) ((wr.alloc (.cells #[.string ⟨#[]⟩, .string ⟨#[]⟩, .string ⟨#[]⟩, .string ⟨#[]⟩, .string ⟨#[]⟩, .string ⟨#[]⟩, .string ⟨#[]⟩, .int .i64 0, .int .i64 0, .string ⟨#[]⟩, .int .i64 0, .int .i64 0, .string ⟨#[]⟩, .string ⟨#[]⟩, .string ⟨#[]⟩, .string ⟨#[]⟩, .string ⟨#[]⟩, .string ⟨#[]⟩] 53)).setCells wr.heap.size 0 (routeCells r))) :=
                ⟨own_cells (own_later hTN.out.ta.co.own ((Below.refl _ _).alloc (Nat.le_refl _) _)) (hTN.out.ta.co.ne (Nat.le_refl _)) _, Below.setCells' (hTN.out.ta.co.below.alloc hTN.out.ta.co.below.size _) hTN.out.ta.co.below.size _ _⟩
              have hrg3 : Hid (((wr.alloc (.cells #[.string ⟨#[]⟩, .string ⟨#[]⟩, .string ⟨#[]⟩, .string ⟨#[]⟩, .string ⟨#[]⟩, .string ⟨#[]⟩, .string ⟨#[]⟩, .int .i64 0, .int .i64 0, .string ⟨#[]⟩, .int .i64 0, .int .i64 0, .string ⟨#[]⟩, .string ⟨#[]⟩, .string ⟨#[]⟩, .string ⟨#[]⟩, .string ⟨#[]⟩, .string ⟨#[]⟩] 53)).setCells wr.heap.size 0 (routeCells r)).rangeAt wr.heap.size 0 (routeCells r)) := World.rangeAt_setCells_same _ _ _ _ hth
              have HNK : Hid (v2.ownBlock ≠ some wr.heap.size) := hTN.out.ta.co.ne (Nat.le_refl _)
              have hszr : w0.heap.size ≤ wr.heap.size := hTN.out.ta.co.below.size
              have hol : (os ++ rs.take q).length ≤ 16383 := by
                rw [List.length_append, List.length_take]
                omega
              go_upto_region 36 with (refine wpList_store_named rfl rfl 53 _ _ rfl wr.heap.size 0 (routeCells r) rfl rfl hth Try.size53 (route_one _) ?_; intro W3 hW3; rw [← hW3.out] at hCO3 hrg3)
              obtain ⟨K3, hK3⟩ : ∃ K3, K3 = wr.heap.size := ⟨_, rfl⟩
              have hS0' : W3.cell? ⟨g, 2, none⟩ = some (.slice (some ⟨e, 0, none⟩) n n) ∧ W3.cell? ⟨e, q * 19, none⟩ = some (.int .u64 r.hash) ∧ W3.rangeAt K3 0 (routeCells r) := by
                refine ⟨Keep.below (X := Nowhere) hCO3.out.below _ _ (fun h => h) HCH.out, ?_, by rw [hK3]; exact hrg3.out⟩
                have := HE.out (q * 19) (by rw [HNN.out]; omega)
                rw [ent0, HR.out] at this
                exact Keep.below (X := Nowhere) hCO3.out.below _ _ (fun h => h) this
              rw [← hK3] at HNK hrg3 ⊢
              have HNK3 : Hid (v2.ownBlock ≠ some K3) := HNK
              have hCO9 : Hid (CO w0 v2 (os ++ rs.take q) (W3.drew.alloc (.cells (encG r).toArray 68))) := (hCO3.out.later (below_drew _)).later ((Below.refl _ _).alloc (Nat.le_refl _) _)
              have hbx : Hid ((W3.drew.alloc (.cells (encG r).toArray 68)).heap[W3.heap.size]? = some (.cells (encG r).toArray 68)) := heap_alloc_new W3.drew _
              obtain ⟨h0, hh0⟩ : ∃ h0, r.hash = h0 := ⟨_, rfl⟩
              rw [hh0] at hS0'
              have HH0 : Hid (r.hash = h0) := hh0
              have hS9 : Hid ((W3.drew.alloc (.cells (encG r).toArray 68)).cell? ⟨g, 2, none⟩ = some (.slice (some ⟨e, 0, none⟩) n n) ∧ (W3.drew.alloc (.cells (encG r).toArray 68)).cell? ⟨e, q * 19, none⟩ = some (.int .u64 h0) ∧ (W3.drew.alloc (.cells (encG r).toArray 68)).rangeAt K3 0 (routeCells r)) :=
                ⟨keep_new W3.drew _ _ _ (fun h => h) hS0'.1, keep_new W3.drew _ _ _ (fun h => h) hS0'.2.1, fun j u hj => keep_new W3.drew _ _ _ (fun h => h) (hS0'.2.2 j u hj)⟩
              clear hth hW3 hTN hg2 hch0 hK3 HNK hrg3 hCO3 c0 c1 c2 c3 c4 c5 c6 c7 c8 c9 c10 c11 c12 c13 d0 d1 d2 d3 hh0
              refine wp_region_held_drew (S := fun W5 => W5.cell? ⟨g, 2, none⟩ = some (.slice (some ⟨e, 0, none⟩) n n) ∧ W5.cell? ⟨e, q * 19, none⟩ = some (.int .u64 h0) ∧ W5.rangeAt K3 0 (routeCells r)) hmx hS0' ?_
              intro hS0
              refine wpAnyH_take (i := 0) (v := ?v0) rfl (by kernel_rfl) (by kernel_rfl) (by kernel_rfl) (fun _ _ _ h => h) (Or.inl ⟨by rfl, ?hy0⟩) hS0 ?_
              case hy0 => (intro w _; go_simp; try (with_reducible rfl))
              refine wpAnyH_take (i := 1) (v := ?v1) rfl (by kernel_rfl) (by kernel_rfl) (by kernel_rfl) (fun _ _ _ h => h) (Or.inl ⟨by rfl, ?hy1⟩) hS0 ?_
              case hy1 => (intro w _; go_simp; try (with_reducible rfl))
              refine wpAnyH_take (i := 2) (v := ?v2) rfl (by kernel_rfl) (by kernel_rfl) (by kernel_rfl) (fun _ _ _ h => h) (Or.inl ⟨by rfl, ?hy2⟩) hS0 ?_
              case hy2 => (intro w _; go_simp; try (with_reducible rfl))
              refine wpAnyH_take (i := 4) (v := .agg #[.string (r.tx 0), .string (r.tx 1), .string (r.tx 2), .string (r.tx 3), .string (r.tx 4), .string (r.tx 5), .string (r.tx 6), .int .i64 (r.nm 0), .int .i64 (r.nm 1), .string (r.tx 7), .int .i64 (r.nm 2), .int .i64 (r.nm 3), .string (r.tx 8), .string (r.tx 9), .string (r.tx 10), .string (r.tx 11), .string (r.tx 12), .string (r.tx 13)]) rfl (by kernel_rfl) (by kernel_rfl) (by kernel_rfl) (fun _ _ _ h => h) (yieldsIf_load_mid (by rfl) 53 _ rfl K3 0 rfl (routeCells r) _ (fun w h => h.2.2) Try.underlying53 rfl Try.size53) hS0 ?_
              refine wpAnyH_ready (rs := [3]) (by kernel_rfl) (by simp) ?_
              refine AllReadyH.cons rfl (fun K hK => ?_) AllReadyH.nil
              go_simp
              refine (hash_any g e n q h0 _ hS0.1 hlt hS0.2.1).mono ?_
              rintro x8 w8 ⟨rfl, rfl⟩
              refine hK.out _ _ hS0 (fun hS0 => ?_)
              clear hK K
              refine wpAnyH_take (i := 5) (v := ?v5) rfl (by kernel_rfl) (by kernel_rfl) (by kernel_rfl) (fun _ _ _ h => h) (Or.inl ⟨by rfl, ?hy5⟩) hS0 ?_
              case hy5 => (intro w _; go_simp; try (with_reducible rfl))
              refine wpAnyH_ready (rs := [6]) (by kernel_rfl) (by simp) ?_
              refine AllReadyH.cons rfl (fun K hK => ?_) AllReadyH.nil
              rw [if_pos (by rfl)]
              refine op_build1 Try.underlying30 Try.info68 (by decide) (by decide) _ rfl (encG r) rfl ?e5 ?_
              case e5 => go_simp; rw [← HH0.out]; rfl
              refine hK.out _ _ hS9.out (fun hS0 => ?_)
              clear hK K
              refine wpAnyH_ready (rs := [7]) (by kernel_rfl) (by simp) ?_
              refine AllReadyH.cons rfl (fun K hK => ?_) AllReadyH.nil
              rw [if_pos (by rfl)]
              refine op_append_own _ _ 30 rfl w0.heap.size 68 i0 _ 19 264 Try.underlying30 hi0 HZ0.out hz1 hz2 rfl (by decide) v2 (os ++ rs.take q).length ((os ++ rs.take q).flatMap encG) rfl hCO9.out.own ⟨W3.heap.size, 0, none⟩ 1 1 (encG r) ?e6 rfl ?c1 (encG_one r) ?c2 ?c3 hCO9.out.below.size ?_
              case e6 => go_simp; try rfl
              case c1 =>
                intro j u hj
                rw [Addr.add_mid, Lib.cell_of_heap hbx.out, Nat.zero_add, ← hj]
                simp
              case c2 => unfold maxLen; omega
              case c3 => omega
              intro v9 w9 hown9 hgr9
              have hC9 : Hid (CO w0 v9 (os ++ rs.take (q + 1)) w9) := by
                refine ⟨?_, hCO9.out.below.grown hgr9 hCO9.out.below.size (fun k hk => (hCO9.out.own.lt k hk).1)⟩
                rw [HTK.out, ← List.append_assoc, List.length_append, List.flatMap_append]
                simpa using hown9
              have hS9b : w9.cell? ⟨g, 2, none⟩ = some (.slice (some ⟨e, 0, none⟩) n n) ∧ w9.cell? ⟨e, q * 19, none⟩ = some (.int .u64 h0) ∧ w9.rangeAt K3 0 (routeCells r) := by
                refine ⟨hgr9.cell hS9.out.1 ?_, hgr9.cell hS9.out.2.1 ?_, fun j u hj => hgr9.cell (hS9.out.2.2 j u hj) ?_⟩
                · exact fun e1 => by have := (hCO9.out.own.lt g e1.symm).1; omega
                · exact fun e1 => by have := (hCO9.out.own.lt e e1.symm).1; omega
                · exact fun e1 => HNK3.out e1.symm
              clear hown9 hgr9
              refine hK.out _ _ hS9b (fun hS0 => ?_)
              clear hK K
              refine wpAnyH_take (i := 8) (v := ?v8) rfl (by kernel_rfl) (by kernel_rfl) (by kernel_rfl) (fun _ _ _ h => h) (Or.inl ⟨by rfl, ?hy8⟩) hS0 ?_
              case hy8 => (intro w _; go_simp; try (with_reducible rfl))
              refine wpAnyH_done (by kernel_rfl) ?_ _
              clear hS0 hS9b
              go_wp2
              go_roundw
              case rel => exact ⟨q + 1, L, hlt, by go_num, rfl, hL', hC9⟩
              case measure => simp [intOf]; omega
    · obtain rfl : q = n := by omega
      have hall : rs.take q = rs := List.take_of_length_le (by rw [HNN.out]; exact Nat.le_refl _)
      go_wp2
      go_ret2
      refine ⟨v2, rfl, ?_⟩
      have := hC.out
      rw [hall] at this
      exact this

theorem coll_any : ∀ (t : Tr) (d : Nat) (P : Int) (dep : Nat), Good t d P → dep + d ≤ 16 → CollP t dep
  | .nil, _, _, dep, _, _ => coll_nil dep
  | .leaf g rs, _, _, dep, _, h => coll_leaf g rs dep (by omega)
  | .inner g ch c, d, P, dep, hg, h => by
    obtain ⟨d', hd, _, _, hch⟩ := hg
    exact coll_inner g ch c dep (by omega) (fun i hi => coll_any (ch i) d' _ (dep + 1) (hch i hi) (by omega))
end Go.Proofs.Qxb6603644a
