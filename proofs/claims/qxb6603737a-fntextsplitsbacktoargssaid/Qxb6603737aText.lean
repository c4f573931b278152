/-
  THE WALK of (*Item).Text (15): the arguments joined by single spaces.
-/
import Derived.Test.Qxb6603737aBld
namespace Go.Proofs.Qxb6603737a
open Go.RowKit

/-- the k-th string -/
def str (ss : List ByteArray) (k : Nat) : ByteArray := ss.getD k ByteArray.empty
/-- the first k strings, joined by single spaces -/
def jp (ss : List ByteArray) : Nat → List UInt8
  | 0 => []
  | k + 1 => jp ss k ++ (if k = 0 then [] else [32]) ++ (str ss k).data.toList
/-- how many bytes the first k strings have -/
def sum (ss : List ByteArray) : Nat → Nat
  | 0 => 0
  | k + 1 => sum ss k + (str ss k).size

theorem jp_length (ss : List ByteArray) (k : Nat) : (jp ss k).length = sum ss k + (k - 1) := by
  induction k with
  | zero => rfl
  | succ k ih =>
    simp only [jp, sum, List.length_append, ih]
    have : (str ss k).data.toList.length = (str ss k).size := by simp
    rw [this]
    split
    · simp; omega
    · simp; omega
theorem sum_mono (ss : List ByteArray) {k n : Nat} (h : k ≤ n) : sum ss k ≤ sum ss n := by
  induction n with
  | zero => simp [show k = 0 by omega]
  | succ n ih =>
    by_cases hk : k ≤ n
    · have := ih hk
      simp only [sum]
      omega
    · simp [show k = n + 1 by omega]

/-- a row of strings: n of them from ⟨g, off⟩ on, in a block below B -/
def Strs (w : World) (B : Nat) (a : Option Addr) (n : Nat) (ss : List ByteArray) : Prop :=
  ss.length = n ∧ (n = 0 ∨ ∃ g off, a = some ⟨g, off, none⟩ ∧ g < B ∧ ∀ i, i < n → w.cell? ⟨g, off + i, none⟩ = some (.string (str ss i)))
theorem Strs.later {w w' : World} {B C : Nat} {a : Option Addr} {n : Nat} {ss : List ByteArray} (h : Strs w B a n ss) (hb : Below C w w') (hBC : B ≤ C) : Strs w' B a n ss := by
  obtain ⟨hz, h0 | ⟨g, off, ha, hg, hc⟩⟩ := h
  · exact ⟨hz, .inl h0⟩
  · exact ⟨hz, .inr ⟨g, off, ha, hg, fun i hi => (World.cell?_of_block (w := w) (hb.block g (by omega))).trans (hc i hi)⟩⟩

set_option maxRecDepth 10000 in
set_option maxHeartbeats 1000000 in
theorem text_any (M g off n cap : Nat) (ss : List ByteArray) (w : World) (hM : w.cell? ⟨M, 1, none⟩ = some (.slice (some ⟨g, off, none⟩) n cap)) (hs : Strs w w.heap.size (some ⟨g, off, none⟩) n ss) (h0 : 0 < n) (hn : n ≤ 1048576) (hsum : sum ss n ≤ 1048576) (hMl : M < w.heap.size) :
    Calls Try.prog 15 #[.pointer (some ⟨M, 0, none⟩)] w fun x w' => x = .returned (.string ⟨(jp ss n).toArray⟩) ∧ Below w.heap.size w w' := by
  have HS : Hid (Strs w w.heap.size (some ⟨g, off, none⟩) n ss) := hs
  clear hs
  have HSUM : Hid (∀ k, k ≤ n → sum ss k ≤ 1048576) := fun k hk => Nat.le_trans (sum_mono ss hk) hsum
  go_enter Try.func15, Try.ntmps15
  go_wp2
  go_loop [3, 21] (fun t i => ∃ (k : Nat) (z : Int), k ≤ n ∧ i = .int .i64 k ∧ t = .int .i64 z ∧ z = ((n - 1 + sum ss k : Nat) : Int)) (fun _ i => n - (intOf i).toNat)
  case atStart => exact ⟨0, _, Nat.zero_le _, rfl, rfl, by simp only [sum]; (go_light; omega)⟩
  case round =>
    obtain ⟨k, z, hk, rfl, rfl, hz⟩ := hrel
    by_cases hlt : k < n
    · have hck : w.cell? ⟨g, off + k, none⟩ = some (.string (str ss k)) := by
        rcases HS.out.2 with h1 | ⟨g', off', ha, _, hc⟩
        · omega
        · cases ha
          exact hc k hlt
      obtain ⟨s, hsk⟩ : ∃ s, str ss k = s := ⟨_, rfl⟩
      rw [hsk] at hck
      have hb := HSUM.out (k + 1) hlt
      simp only [sum, hsk] at hb
      have HZ : Hid _ := hz
      have hzb : 0 ≤ z ∧ z + (s.size : Int) ≤ 9223372036854775807 := by (go_light; omega)
      have hz2 : Hid (z + (s.size : Int) = ((n - 1 + sum ss (k + 1) : Nat) : Int)) := by
        show _ = _
        simp only [sum, hsk]
        (go_light; omega)
      have HSK : Hid _ := hsk
      clear hsk hz
      go_wp2
      go_round
      case rel => exact ⟨k + 1, z + (s.size : Int), hlt, by go_num, rfl, hz2.out⟩
      case measure => simp [intOf]; omega
    · obtain rfl : k = n := by omega
      have hb := HSUM.out k (Nat.le_refl _)
      obtain ⟨N, hN⟩ : ∃ N : Nat, N = k - 1 + sum ss k := ⟨_, rfl⟩
      rw [← hN] at hz
      subst hz
      have hNb : N ≤ 2097152 := by (go_light; omega)
      have HN : Hid _ := hN
      clear hN
      go_wp2_with (go_at_call 19; refine (Try.Builder_Grow_fresh w.heap.size w.heap.size N _ (Nat.le_refl _) (heap_alloc_new _ _) (by simp) (by (go_light; omega))).mono ?_; rintro x1 w1 ⟨rfl, hU1, hb1⟩; have hB1 : Below w.heap.size w w1 := ((Below.refl _ _).alloc (Nat.le_refl _) _).trans hb1; have hM1 : w1.cell? ⟨M, 1, none⟩ = some (.slice (some ⟨g, off, none⟩) k cap) := (hB1.cell (by exact hMl)).trans hM)
      have hU1' : Used w.heap.size w.heap.size (Lib.byteCells (jp ss 0)) w1 := hU1
      clear hU1
      go_loopw [37] (fun i wr => ∃ (q : Nat) (l : List UInt8), q ≤ k ∧ i = .int .i64 q ∧ Hid (l = jp ss q) ∧ Used w.heap.size w.heap.size (Lib.byteCells l) wr ∧ Below w.heap.size w wr) (fun i _ => k - (intOf i).toNat)
      case atStart => exact ⟨0, _, Nat.zero_le _, rfl, rfl, hU1', hB1⟩
      case round =>
        obtain ⟨q, l, hq, rfl, hl, hU, hB⟩ := hrel
        clear hU1' hb1 hB1 hM1
        have hsz := hB.size
        by_cases hlt2 : q < k
        · have hck : wr.cell? ⟨g, off + q, none⟩ = some (.string (str ss q)) := by
            rcases (HS.out.later hB (Nat.le_refl _)).2 with h1 | ⟨g', off', ha, _, hc⟩
            · omega
            · cases ha
              exact hc q hlt2
          obtain ⟨s, hsk⟩ : ∃ s, str ss q = s := ⟨_, rfl⟩
          rw [hsk] at hck
          have HSK : Hid _ := hsk
          clear hsk
          have hll : Hid (l.length + 1 + s.size ≤ 4000000) := by
            have h1 := jp_length ss q
            have h2 := HSUM.out (q + 1) hlt2
            simp only [sum, HSK.out] at h2
            show _ ≤ _
            rw [hl.out, h1]
            (go_light; omega)
          have hbl : ∀ xs : List UInt8, (Lib.byteCells xs).length = xs.length := fun xs => by simp [Lib.byteCells]
          have HBL : Hid _ := hbl
          clear hbl
          by_cases hq0 : q = 0
          · subst hq0
            rw [Nat.add_zero] at hck
            have hnext : Hid (Lib.byteCells l ++ Lib.strCells s = Lib.byteCells (jp ss (0 + 1))) := by
              show _ = _
              rw [hl.out]
              simp only [jp, HSK.out, if_true, List.append_nil, List.nil_append]
              rfl
            go_wp2_with (go_at_call 21; refine (writeString w.heap.size w.heap.size (Lib.byteCells l) s _ hU (by rw [HBL.out]; have := hll.out; (go_light; omega)) hsz).mono ?_; rintro x2 w2 ⟨rfl, hU2, hb2⟩)
            go_roundw
            case rel => exact ⟨0 + 1, jp ss (0 + 1), hlt2, by go_num, rfl, by rw [← hnext.out]; exact hU2, hB.trans hb2⟩
            case measure => simp [intOf]; omega
          · have hnext : Hid (Lib.byteCells l ++ [.int .u8 32] ++ Lib.strCells s = Lib.byteCells (jp ss (q + 1))) := by
              show _ = _
              rw [hl.out]
              simp only [jp, HSK.out, if_neg hq0, Lib.byteCells, Lib.strCells, List.map_append]
              rfl
            go_wp2_with (first
              | (go_at_call 21; refine (writeString w.heap.size w.heap.size _ s _ hU2 (by rw [List.length_append, HBL.out]; have := hll.out; simp only [List.length_cons, List.length_nil]; (go_light; omega)) (by have := hb2.size; (go_light; omega))).mono ?_; rintro x3 w3 ⟨rfl, hU3, hb3⟩)
              | (go_at_call 20; refine (writeByte w.heap.size w.heap.size (Lib.byteCells l) 32 _ hU (by rw [HBL.out]; have := hll.out; (go_light; omega)) hsz).mono ?_; rintro x2 w2 ⟨rfl, hU2, hb2⟩))
            go_roundw
            case rel => exact ⟨q + 1, jp ss (q + 1), hlt2, by go_num, rfl, by rw [← hnext.out]; exact hU3, (hB.trans hb2).trans hb3⟩
            case measure => simp [intOf]; omega
        · obtain rfl : q = k := by omega
          have hl' := hl.out
          subst hl'
          go_wp2_with (go_at_call 22; refine (Try.Builder_String_any w.heap.size w.heap.size (jp ss q) _ (.inr hU) hsz).mono ?_; rintro x2 w2 ⟨rfl, hb2⟩)
          go_ret
          exact ⟨rfl, hB.trans hb2⟩
end Go.Proofs.Qxb6603737a
