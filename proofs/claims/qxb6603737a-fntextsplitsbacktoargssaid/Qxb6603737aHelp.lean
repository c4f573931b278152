/-
  THE WALKS of the law's helpers: the bound on lengths (12), sizeFitB1 (13), cloneStringsB1 (14).
-/
import Derived.Test.Qxb6603737aText
namespace Go.Proofs.Qxb6603737a
open Go.RowKit

/-- a test answers b; if it says true, Q -/
def OkB (w : World) (Q : Prop) (x : Ending) (w' : World) : Prop := ∃ b, x = .returned (.bool b) ∧ w' = w ∧ Hid (b = true → Q)
theorem OkB.mk {w : World} {Q : Prop} {b : Bool} (h : b = true → Q) : OkB w Q (.returned (.bool b)) w := ⟨b, rfl, rfl, h⟩

/-- what the first bound says -/
def Small (n : Nat) (ss : List ByteArray) : Prop := n ≤ 1048576 ∧ sum ss n ≤ 1048576

theorem Strs.cell {w : World} {B : Nat} {a : Option Addr} {n : Nat} {ss : List ByteArray} (h : Strs w B a n ss) {k : Nat} (hk : k < n) : ∃ g off, a = some ⟨g, off, none⟩ ∧ w.cell? ⟨g, off + k, none⟩ = some (.string (str ss k)) := by
  rcases h.2 with h0 | ⟨g, off, ha, _, hc⟩
  · omega
  · exact ⟨g, off, ha, hc k hk⟩

set_option maxRecDepth 10000 in
set_option maxHeartbeats 1000000 in
theorem bytes12 (a : Option Addr) (n cap : Nat) (ss : List ByteArray) (w : World) (hs : Strs w w.heap.size a n ss) (hm : n ≤ maxLen) (hms : ∀ k, k < n → (str ss k).size ≤ maxLen) :
    Calls Try.prog 12 #[.slice a n cap] w (OkB w (Small n ss)) := by
  have HS : Hid (Strs w w.heap.size a n ss) := hs
  have HM : Hid (∀ k, k < n → (str ss k).size ≤ maxLen) := hms
  clear hs hms
  unfold maxLen at hm
  by_cases hn : n ≤ 1048576
  · go_enter Try.func12, Try.ntmps12
    go_wp2
    go_loop [3, 4] (fun t i => ∃ (k : Nat) (z : Int), k ≤ n ∧ i = .int .i64 k ∧ t = .int .i64 z ∧ Hid (z = ((n + sum ss k : Nat) : Int)) ∧ z ≤ 1048576 ∧ 0 ≤ z) (fun _ i => n - (intOf i).toNat)
    case atStart => exact ⟨0, _, Nat.zero_le _, rfl, rfl, by show _ = _; simp [sum], by (go_light; omega), by (go_light; omega)⟩
    case round =>
      obtain ⟨k, z, hk, rfl, rfl, hz, hzb, hz0⟩ := hrel
      by_cases hlt : k < n
      · obtain ⟨g, off, ha, hck⟩ := HS.out.cell hlt
        subst ha
        have hsm := HM.out k hlt
        obtain ⟨s, hsk⟩ : ∃ s, str ss k = s := ⟨_, rfl⟩
        rw [hsk] at hck hsm
        unfold maxLen at hsm
        have HSK : Hid _ := hsk
        have hz2 : Hid (z + (s.size : Int) = ((n + sum ss (k + 1) : Nat) : Int)) := by
          have := hz.out
          show _ = _
          simp only [sum, hsk]
          (go_light; omega)
        clear hsk
        by_cases h1 : s.size ≤ 1048576
        · by_cases h2 : z + (s.size : Int) ≤ 1048576
          · go_wp2
            go_round
            case rel => exact ⟨k + 1, z + (s.size : Int), hlt, by go_num, rfl, hz2, h2, by (go_light; omega)⟩
            case measure => simp [intOf]; omega
          · go_wp2
            go_ret
            exact OkB.mk (fun h => absurd h (by decide))
        · go_wp2
          go_ret
          exact OkB.mk (fun h => absurd h (by decide))
      · obtain rfl : k = n := by omega
        go_wp2
        go_ret
        exact OkB.mk (fun _ => show _ ∧ _ from ⟨hn, by have := hz.out; omega⟩)
  · go_enter Try.func12, Try.ntmps12
    go_wp2
    go_ret
    exact OkB.mk (fun h => absurd h (by decide))

set_option maxRecDepth 10000 in
set_option maxHeartbeats 1000000 in
theorem sizeFit13 (a : Option Addr) (n cap : Nat) (ss : List ByteArray) (w : World) (hs : Strs w w.heap.size a n ss) (hn : n ≤ 1048576) (hsum : sum ss n ≤ 1048576) :
    Calls Try.prog 13 #[.string { data := #[] }, .slice a n cap, .slice none 0 0, .slice none 0 0] w (OkB w True) := by
  have HS : Hid (Strs w w.heap.size a n ss) := hs
  have HSUM : Hid (∀ k, k ≤ n → sum ss k ≤ 1048576) := fun k hk => Nat.le_trans (sum_mono ss hk) hsum
  clear hs hsum
  by_cases hn2 : n ≤ 65536
  · go_enter Try.func13, Try.ntmps13
    go_wp2
    go_loop [9, 10] (fun t i => ∃ (k : Nat) (z : Int), k ≤ n ∧ i = .int .i64 k ∧ t = .int .i64 z ∧ z ≤ 1048576 ∧ 0 ≤ z) (fun _ i => n - (intOf i).toNat)
    case atStart => exact ⟨0, _, Nat.zero_le _, rfl, rfl, by simp, by simp⟩
    case round =>
      obtain ⟨k, z, hk, rfl, rfl, hzb, hz0⟩ := hrel
      by_cases hlt : k < n
      · obtain ⟨g, off, ha, hck⟩ := HS.out.cell hlt
        subst ha
        have hsm := HSUM.out (k + 1) hlt
        obtain ⟨s, hsk⟩ : ∃ s, str ss k = s := ⟨_, rfl⟩
        rw [hsk] at hck
        simp only [sum, hsk] at hsm
        have hs1 : s.size ≤ 1048576 := by (go_light; omega)
        clear hsk hsm
        by_cases h2 : z + (16 + (s.size : Int)) ≤ 1048576
        · go_wp2
          go_round
          case rel => exact ⟨k + 1, z + (16 + (s.size : Int)), hlt, by go_num, rfl, h2, by (go_light; omega)⟩
          case measure => simp [intOf]; omega
        · go_wp2
          go_ret
          exact OkB.mk (fun _ => trivial)
      · obtain rfl : k = n := by omega
        go_wp2
        go_loop [11] (fun i => i = .int .i64 0) (fun _ => 0)
        case atStart => rfl
        case round =>
          subst hrel
          go_wp2
          go_loop [12] (fun i => i = .int .i64 0) (fun _ => 0)
          case atStart => rfl
          case round =>
            subst hrel
            go_wp2
            go_ret
            exact OkB.mk (fun _ => trivial)
  · go_enter Try.func13, Try.ntmps13
    go_wp2
    go_ret
    exact OkB.mk (fun _ => trivial)

theorem Try.info9 : (Try.prog.info? 9).map (fun i => (i.zero, i.size, i.bytes)) = some (some (.string ByteArray.empty), 1, 16) := by kernel_rfl

/-- block g holds the strings ss, and no cell more -/
def RowS (w : World) (g : Nat) (ss : List ByteArray) : Prop := w.heap[g]? = some (.cells (ss.map Value.string).toArray 9 (0, 0))
theorem RowS.cell {w : World} {g : Nat} {ss : List ByteArray} (h : RowS w g ss) {i : Nat} (hi : i < ss.length) : w.cell? ⟨g, i, none⟩ = some (.string (str ss i)) := by
  unfold RowS at h
  simp [World.cell?, h, hi, str]
theorem RowS.lt {w : World} {g : Nat} {ss : List ByteArray} (h : RowS w g ss) : g < w.heap.size := (Array.getElem?_eq_some_iff.1 h).1
theorem RowS.put {w : World} {g : Nat} {l : List ByteArray} (h : RowS w g l) (k : Nat) (z : ByteArray) : RowS (w.setCell ⟨g, k, none⟩ (.string z)) g (l.set k z) := by
  unfold RowS at h ⊢
  simp only [World.setCell]
  rw [Array.getElem?_modify]
  simp [h]
theorem RowS.frozen {w : World} {g : Nat} {l : List ByteArray} (h : RowS w g l) (k : Nat) : w.frozen? ⟨g, k, none⟩ = false := by
  unfold RowS at h
  simp [World.frozen?, h]
theorem RowS.strs {w : World} {g : Nat} {ss : List ByteArray} (h : RowS w g ss) {B : Nat} (hB : g < B) : Strs w B (some ⟨g, 0, none⟩) ss.length ss :=
  ⟨rfl, .inr ⟨g, 0, rfl, hB, fun i hi => by rw [Nat.zero_add]; exact h.cell hi⟩⟩

theorem wpList_make_strs {w : World} {ops : Array Oper} {rest : List Oper} {o : Oper} {a : Act} {Q : Exit → Act → World → Prop}
    (hg : o.guard = none) (l c : Operand) (hop : o.op = Op.makeSlice 25 l c) (kl kc : IntKind) (L C : Int) (n : Nat) (hl : a.eval l = .int kl L) (hc : a.eval c = .int kc C)
    (hL : L = (n : Int)) (hC : C = (n : Int)) (hn : n ≤ 1048576)
    (hK : ∀ w', Hid (w'.heap.size = w.heap.size + 1) → RowS w' w.heap.size (List.replicate n ByteArray.empty) → Below w.heap.size w w' → wpList Try.prog ops Q rest (a.put o.dst (.slice (some ⟨w.heap.size, 0, none⟩) n n)) w') :
    wpList Try.prog ops Q (o :: rest) a w := by
  refine wpList_plain hg fun K hK' => ?_
  subst hL
  subst hC
  obtain ⟨i, hi, hz0, hz1, hz2⟩ := info_parts Try.info9
  have hrun := run_make (P := Try.prog) w 25 9 i (.string ByteArray.empty) Try.underlying25 hi hz0 kl kc n n (by omega) (Int.le_refl _) (by rw [hz2]; omega) (by omega)
  unfold Oper.wp
  simp [execOp, hop, hl, hc, hrun, Result.andThen]
  refine hK' _ _ (hK _ ?_ ?_ ?_)
  · show _ = _
    simp
  · show (w.heap.push _)[w.heap.size]? = _
    rw [Array.getElem?_push_size, hz1, Nat.mul_one]
    have e : madeCells (Value.string ByteArray.empty).cells n = ((List.replicate n ByteArray.empty).map Value.string).toArray := by
      apply Array.toList_inj.1
      rw [show (Value.string ByteArray.empty).cells = #[Value.string ByteArray.empty] from rfl, toList_madeCells_one]
      simp
    rw [e]
  · exact (Below.refl _ _).alloc (Nat.le_refl _) _

theorem run_eq_slice_nil25 (w : World) (a : Option Addr) (n c n' c' : Nat) :
    (binOp .eql 25 (.slice a n c) (.slice none n' c')).run Try.prog w = .ok (.bool a.isNone) w := by
  simp only [binOp]
  simp [Op.equal, Op.maxDepth, Lib.run_equalIn_slice_nil w 9999 25 9 a n c n' c' Try.underlying25]

theorem take_setS {zs : List ByteArray} {n k : Nat} (hz : zs.length = n) (hk : k < n) : (zs.take k ++ List.replicate (n - k) ByteArray.empty).set k (str zs k) = zs.take (k + 1) ++ List.replicate (n - (k + 1)) ByteArray.empty := by
  have h1 : (zs.take k).length = k := by simp; omega
  rw [List.set_append, if_neg (by omega), h1, Nat.sub_self, show n - k = (n - (k + 1)) + 1 by omega, List.replicate_succ, List.set_cons_zero]
  have hk2 : k < zs.length := by omega
  have e : zs.take (k + 1) = zs.take k ++ [str zs k] := by rw [List.take_add_one, List.getElem?_eq_getElem hk2, str, List.getD_eq_getElem?_getD, List.getElem?_eq_getElem hk2]; rfl
  rw [e, List.append_assoc]
  rfl

set_option maxRecDepth 10000 in
set_option maxHeartbeats 1000000 in
theorem clone14 (b off n cap : Nat) (zs : List ByteArray) (w : World) (hn : n ≤ 1048576) (hb : Strs w w.heap.size (some ⟨b, off, none⟩) n zs) :
    Calls Try.prog 14 #[.slice (some ⟨b, off, none⟩) n cap] w fun x w' => x = .returned (.slice (some ⟨w.heap.size, 0, none⟩) n n) ∧ RowS w' w.heap.size zs ∧ Below w.heap.size w w' := by
  have hnil := run_eq_slice_nil25 w (some ⟨b, off, none⟩) n cap 0 0
  simp only [Option.isNone_some] at hnil
  have HZ : Hid (zs.length = n) := hb.1
  have HB : Hid (Strs w w.heap.size (some ⟨b, off, none⟩) n zs) := hb
  clear hb
  go_enter Try.func14, Try.ntmps14
  go_wp2_with (at_make; refine wpList_make_strs rfl _ _ rfl _ _ _ _ n rfl rfl (by omega) (by omega) (by omega) ?_; intro w1 hs1 hr1 hb1)
  obtain ⟨g, hg⟩ : ∃ g, g = w.heap.size := ⟨_, rfl⟩
  rw [← hg] at hr1 hb1 HB ⊢
  have HG : Hid _ := hg
  clear hg hnil
  go_loopw [4] (fun i wr => ∃ k : Nat, i = .int .i64 k ∧ k ≤ n ∧ RowS wr g (zs.take k ++ List.replicate (n - k) ByteArray.empty) ∧ Below g w wr) (fun i _ => n - (intOf i).toNat)
  case atStart => exact ⟨0, rfl, Nat.zero_le _, by simpa using hr1, hb1⟩
  case round =>
    obtain ⟨k, rfl, hk, hr, hB⟩ := hrel
    clear hr1 hb1
    by_cases hlt : k < n
    · have hc1 : wr.cell? ⟨b, off + k, none⟩ = some (.string (str zs k)) := by
        rcases (Strs.later HB.out hB (Nat.le_refl _)).2 with h0 | ⟨b', off', ha, _, hc⟩
        · omega
        · cases ha
          exact hc k hlt
      obtain ⟨z, hz⟩ : ∃ z, str zs k = z := ⟨_, rfl⟩
      rw [hz] at hc1
      have HZ1 : Hid _ := hz
      clear hz
      have hl2 : Hid ((zs.take k ++ List.replicate (n - k) ByteArray.empty).length = n) := by show _ = _; simp; have := HZ.out; omega
      obtain ⟨v, hc2⟩ : ∃ v, wr.cell? ⟨g, k, none⟩ = some v := ⟨_, hr.cell (by rw [hl2.out]; exact hlt)⟩
      have hf2 := hr.frozen k
      have hr2 : RowS (wr.setCell ⟨g, k, none⟩ (.string z)) g (zs.take (k + 1) ++ List.replicate (n - (k + 1)) ByteArray.empty) := by
        have := hr.put k z
        rw [← HZ1.out, take_setS HZ.out hlt] at this
        rw [← HZ1.out]
        exact this
      have HR2 : Hid _ := hr2
      clear hr hr2
      go_wp2
      go_roundw
      case rel => exact ⟨k + 1, by go_num, hlt, HR2.out, hB.setCell (Nat.le_refl _) _⟩
      case measure => simp [intOf]; omega
    · obtain rfl : k = n := by omega
      have hfin : Hid (zs.take k ++ List.replicate (k - k) ByteArray.empty = zs) := by
        show _ = _
        have := HZ.out
        simp [List.take_of_length_le (show zs.length ≤ k by omega)]
      rw [hfin.out] at hr
      go_wp2
      go_ret
      have hg := HG.out
      subst hg
      exact ⟨rfl, hr, hB⟩
end Go.Proofs.Qxb6603737a
